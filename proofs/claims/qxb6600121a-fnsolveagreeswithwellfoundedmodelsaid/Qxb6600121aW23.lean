/-
   Walks written by program (wip/gen).
-/
import Derived.Test.Qxb6600121aData
namespace Go.Proofs.Qxb6600121a
open Go Go.Proofs
set_option linter.unusedVariables false
set_option linter.unusedSimpArgs false

set_option maxRecDepth 10000 in
theorem sizedWithin (w : World) (B : Nat → Prop) (n : Int) (v : Value) (rs : List RD) (ma mb : Nat) (hv : RulesAt w.heap B v rs) (hma : ma ≤ 1048576) (hmb : mb ≤ 1048576) :
    CallsS Try.prog 23 #[.int .i64 n, v, .int .i64 (ma : Nat), .int .i64 (mb : Nat)] w (fun r w' => w' = w ∧ ∃ b, r = .bool b ∧ (b = true → 0 ≤ n ∧ n ≤ ma ∧ 56 * rs.length + 8 * tot rs ≤ mb)) := by
  obtain ⟨a, c, rfl, hc, hn, hp⟩ := hv
  refine W_fun [8] Try.func23 rfl Try.ntmps23 Try.results23 (Nat.le_of_ble_eq_true rfl) ?_
  refine W_seq (by kernel_rfl) ?_
  -- R0
  refine W_reg (l := [⟨some 8, Op.assign (Operand.const (Value.bool false)), 4, none⟩]) (by kernel_rfl) (by kernel_rfl) ?_
  refine TL_q rfl (QV_assign rfl) ?_
  refine TL_nil ?_
  refine W_seq (by kernel_rfl) ?_
  refine W_seq (by kernel_rfl) ?_
  -- R1
  refine W_reg (l := [⟨some 13, Op.move (Operand.tmp 0), 3, none⟩, ⟨some 14, Op.binOp BinOp.lss 3 (Operand.tmp 13) (Operand.const (Value.int IntKind.i64 0)) 3, 4, none⟩, ⟨some 15, Op.move (Operand.tmp 14), 4, none⟩, ⟨some 16, Op.move (Operand.tmp 0), 3, some (2, false)⟩, ⟨some 17, Op.move (Operand.tmp 2), 3, some (2, false)⟩, ⟨some 18, Op.binOp BinOp.gtr 3 (Operand.tmp 16) (Operand.tmp 17) 3, 4, some (2, false)⟩, ⟨some 19, Op.pick (Operand.tmp 15) (Operand.const (Value.bool true)) (Operand.tmp 18), 4, none⟩]) (by kernel_rfl) (by kernel_rfl) ?_
  refine TL_q rfl (QV_move rfl) ?_
  refine TL_q rfl (QV_lss rfl rfl) ?_
  refine TL_q rfl (QV_move rfl) ?_
  refine TL_cases (t := 15) rfl (fun hb15 => ?_) (fun hb15 => ?_)
  ·
    refine TL_gs rfl rfl rfl rfl ?_
    refine TL_gs rfl rfl rfl rfl ?_
    refine TL_gs rfl rfl rfl rfl ?_
    refine TL_q rfl (QV_pickT rfl rfl) ?_
    refine TL_nil ?_
    refine W_condT (c := Operand.tmp 19) (by kernel_rfl) rfl ?_
    refine W_seq (by kernel_rfl) ?_
    -- R2
    refine W_reg (l := [⟨some 8, Op.assign (Operand.const (Value.bool false)), 4, none⟩]) (by kernel_rfl) (by kernel_rfl) ?_
    refine TL_q rfl (QV_assign rfl) ?_
    refine TL_nil ?_
    refine W_ret (by kernel_rfl) ?_
    first | exact ⟨_, rfl, rfl, false, rfl, fun h => by cases h⟩ | exact ⟨_, rfl, rfl, true, rfl, fun _ => ⟨by omega, by omega, by omega⟩⟩
  ·
    have h15 := of_decide_eq_false hb15
    refine TL_gq rfl rfl rfl rfl (QV_move rfl) ?_
    refine TL_gq rfl rfl rfl rfl (QV_move rfl) ?_
    refine TL_gq rfl rfl rfl rfl (QV_gtr rfl rfl) ?_
    refine TL_q rfl (QV_pickF rfl rfl) ?_
    refine TL_nil ?_
    refine W_cond (c := Operand.tmp 19) (by kernel_rfl) rfl (fun hc19 => ?_) (fun hc19 => ?_)
    ·
      refine W_seq (by kernel_rfl) ?_
      -- R2
      refine W_reg (l := [⟨some 8, Op.assign (Operand.const (Value.bool false)), 4, none⟩]) (by kernel_rfl) (by kernel_rfl) ?_
      refine TL_q rfl (QV_assign rfl) ?_
      refine TL_nil ?_
      refine W_ret (by kernel_rfl) ?_
      first | exact ⟨_, rfl, rfl, false, rfl, fun h => by cases h⟩ | exact ⟨_, rfl, rfl, true, rfl, fun _ => ⟨by omega, by omega, by omega⟩⟩
    ·
      have h19 := of_decide_eq_false hc19
      refine W_skip (by kernel_rfl) ?_
      refine W_seq (by kernel_rfl) ?_
      refine W_seq (by kernel_rfl) ?_
      -- R3
      refine W_reg (l := [⟨some 20, Op.move (Operand.tmp 1), 22, none⟩, ⟨some 21, Op.call { callee := Callee.builtin Builtin.len, args := #[Operand.tmp 20], argTypes := #[22] }, 3, none⟩, ⟨some 22, Op.move (Operand.tmp 3), 3, none⟩, ⟨some 23, Op.binOp BinOp.gtr 3 (Operand.tmp 21) (Operand.tmp 22) 3, 4, none⟩]) (by kernel_rfl) (by kernel_rfl) ?_
      refine TL_q rfl (QV_move rfl) ?_
      refine TL_q rfl (QV_len rfl el22) ?_
      refine TL_q rfl (QV_move rfl) ?_
      refine TL_q rfl (QV_gtr rfl rfl) ?_
      refine TL_nil ?_
      refine W_cond (c := Operand.tmp 23) (by kernel_rfl) rfl (fun hc23 => ?_) (fun hc23 => ?_)
      ·
        refine W_seq (by kernel_rfl) ?_
        -- R4
        refine W_reg (l := [⟨some 8, Op.assign (Operand.const (Value.bool false)), 4, none⟩]) (by kernel_rfl) (by kernel_rfl) ?_
        refine TL_q rfl (QV_assign rfl) ?_
        refine TL_nil ?_
        refine W_ret (by kernel_rfl) ?_
        first | exact ⟨_, rfl, rfl, false, rfl, fun h => by cases h⟩ | exact ⟨_, rfl, rfl, true, rfl, fun _ => ⟨by omega, by omega, by omega⟩⟩
      ·
        have h23 := of_decide_eq_false hc23
        refine W_skip (by kernel_rfl) ?_
        refine W_seq (by kernel_rfl) ?_
        -- R5
        refine W_reg (l := [⟨some 24, Op.move (Operand.tmp 1), 22, none⟩, ⟨some 25, Op.call { callee := Callee.builtin Builtin.len, args := #[Operand.tmp 24], argTypes := #[22] }, 3, none⟩, ⟨some 26, Op.binOp BinOp.mul 3 (Operand.const (Value.int IntKind.i64 56)) (Operand.tmp 25) 3, 3, none⟩, ⟨some 9, Op.assign (Operand.tmp 26), 3, none⟩]) (by kernel_rfl) (by kernel_rfl) ?_
        refine TL_q rfl (QV_move rfl) ?_
        refine TL_q rfl (QV_len rfl el22) ?_
        refine TL_q rfl (QV_mul (r := ((56 * rs.length : Nat) : Int)) rfl rfl (by omega) (by omega) (by omega)) ?_
        refine TL_q rfl (QV_assign rfl) ?_
        refine TL_nil ?_
        refine W_seq (by kernel_rfl) ?_
        refine W_seq (by kernel_rfl) ?_
        -- R6
        refine W_reg (l := [⟨some 27, Op.move (Operand.tmp 9), 3, none⟩, ⟨some 28, Op.move (Operand.tmp 3), 3, none⟩, ⟨some 29, Op.binOp BinOp.gtr 3 (Operand.tmp 27) (Operand.tmp 28) 3, 4, none⟩]) (by kernel_rfl) (by kernel_rfl) ?_
        refine TL_q rfl (QV_move rfl) ?_
        refine TL_q rfl (QV_move rfl) ?_
        refine TL_q rfl (QV_gtr rfl rfl) ?_
        refine TL_nil ?_
        refine W_cond (c := Operand.tmp 29) (by kernel_rfl) rfl (fun hc29 => ?_) (fun hc29 => ?_)
        ·
          refine W_seq (by kernel_rfl) ?_
          -- R7
          refine W_reg (l := [⟨some 8, Op.assign (Operand.const (Value.bool false)), 4, none⟩]) (by kernel_rfl) (by kernel_rfl) ?_
          refine TL_q rfl (QV_assign rfl) ?_
          refine TL_nil ?_
          refine W_ret (by kernel_rfl) ?_
          first | exact ⟨_, rfl, rfl, false, rfl, fun h => by cases h⟩ | exact ⟨_, rfl, rfl, true, rfl, fun _ => ⟨by omega, by omega, by omega⟩⟩
        ·
          have h29 := of_decide_eq_false hc29
          refine W_skip (by kernel_rfl) ?_
          refine W_seq (by kernel_rfl) ?_
          refine W_seq (by kernel_rfl) ?_
          -- R8
          refine W_reg (l := [⟨some 10, Op.assign (Operand.const (Value.int IntKind.i64 0)), 3, none⟩]) (by kernel_rfl) (by kernel_rfl) ?_
          refine TL_q rfl (QV_assign rfl) ?_
          refine TL_nil ?_
          refine W_block 0 (by kernel_rfl) ?_
          refine W_loop (fun (k : Nat) w1 => k ≤ rs.length ∧ 56 * rs.length + 8 * tot (rs.take k) ≤ mb ∧ w1 = w) (fun k => [(1, .slice a rs.length c), (3, .int .i64 (mb : Int)), (9, .int .i64 ((56 * rs.length + 8 * tot (rs.take k) : Nat) : Int)), (10, .int .i64 (k : Int))]) (fun k => rs.length - k) 0 (by kernel_rfl) ?_ ?_ ?_
          · exact ⟨Nat.zero_le _, by simp [tot]; omega, rfl⟩
          · exact ⟨rfl, rfl, sint (by simp [tot]), rfl, trivial⟩
          rintro k w1 ⟨hk, hacc, rfl⟩
          refine W_seq (by kernel_rfl) ?_
          refine W_seq (by kernel_rfl) ?_
          -- R9
          refine W_reg (l := [⟨some 30, Op.move (Operand.tmp 10), 3, none⟩, ⟨some 31, Op.move (Operand.tmp 1), 22, none⟩, ⟨some 32, Op.call { callee := Callee.builtin Builtin.len, args := #[Operand.tmp 31], argTypes := #[22] }, 3, none⟩, ⟨some 33, Op.binOp BinOp.lss 3 (Operand.tmp 30) (Operand.tmp 32) 3, 4, none⟩]) (by kernel_rfl) (by kernel_rfl) ?_
          refine TL_q rfl (QV_move rfl) ?_
          refine TL_q rfl (QV_move rfl) ?_
          refine TL_q rfl (QV_len rfl el22) ?_
          refine TL_q rfl (QV_lss rfl rfl) ?_
          refine TL_nil ?_
          refine W_cond (c := Operand.tmp 33) (by kernel_rfl) rfl (fun hc33 => ?_) (fun hc33 => ?_)
          ·
            have hlt : k < rs.length := by have := of_decide_eq_true hc33; omega
            obtain ⟨b, o, rfl, hbB, hcel⟩ := hp (by omega)
            obtain ⟨g1, va, vu, g2, g3, ⟨aa, ca, rfl, -⟩, ⟨au, cu, rfl, -⟩⟩ := hcel k hlt
            have hts := tot_take_succ rs k hlt
            refine W_skip (by kernel_rfl) ?_
            refine W_seq (by kernel_rfl) ?_
            refine W_block 1 (by kernel_rfl) ?_
            refine W_seq (by kernel_rfl) ?_
            -- R11
            refine W_reg (l := [⟨some 36, Op.move (Operand.tmp 1), 22, none⟩, ⟨some 37, Op.move (Operand.tmp 10), 3, none⟩, ⟨some 38, Op.indexAddr 22 (Operand.tmp 36) (Operand.tmp 37), 0, none⟩, ⟨some 39, Op.fieldAddr 33 (Operand.tmp 38) 1, 0, none⟩, ⟨some 40, Op.load 27 (Operand.tmp 39), 27, none⟩, ⟨some 41, Op.call { callee := Callee.builtin Builtin.len, args := #[Operand.tmp 40], argTypes := #[27] }, 3, none⟩, ⟨some 11, Op.assign (Operand.tmp 41), 3, none⟩]) (by kernel_rfl) (by kernel_rfl) ?_
            refine TL_q rfl (QV_move rfl) ?_
            refine TL_q rfl (QV_move rfl) ?_
            refine TL_q rfl (QV_idx rfl rfl el22 sz33 (hlt)) ?_
            refine TL_q rfl (QV_field rfl fld33_1) ?_
            refine TL_q rfl (QV_load rfl one27 (g2)) ?_
            refine TL_q rfl (QV_len rfl el27) ?_
            refine TL_q rfl (QV_assign rfl) ?_
            refine TL_nil ?_
            refine W_seq (by kernel_rfl) ?_
            -- R12
            refine W_reg (l := [⟨some 42, Op.move (Operand.tmp 1), 22, none⟩, ⟨some 43, Op.move (Operand.tmp 10), 3, none⟩, ⟨some 44, Op.indexAddr 22 (Operand.tmp 42) (Operand.tmp 43), 0, none⟩, ⟨some 45, Op.fieldAddr 33 (Operand.tmp 44) 2, 0, none⟩, ⟨some 46, Op.load 27 (Operand.tmp 45), 27, none⟩, ⟨some 47, Op.call { callee := Callee.builtin Builtin.len, args := #[Operand.tmp 46], argTypes := #[27] }, 3, none⟩, ⟨some 12, Op.assign (Operand.tmp 47), 3, none⟩]) (by kernel_rfl) (by kernel_rfl) ?_
            refine TL_q rfl (QV_move rfl) ?_
            refine TL_q rfl (QV_move rfl) ?_
            refine TL_q rfl (QV_idx rfl rfl el22 sz33 (hlt)) ?_
            refine TL_q rfl (QV_field rfl fld33_2) ?_
            refine TL_q rfl (QV_load rfl one27 (g3)) ?_
            refine TL_q rfl (QV_len rfl el27) ?_
            refine TL_q rfl (QV_assign rfl) ?_
            refine TL_nil ?_
            refine W_seq (by kernel_rfl) ?_
            refine W_seq (by kernel_rfl) ?_
            -- R13
            refine W_reg (l := [⟨some 48, Op.move (Operand.tmp 11), 3, none⟩, ⟨some 49, Op.move (Operand.tmp 3), 3, none⟩, ⟨some 50, Op.binOp BinOp.gtr 3 (Operand.tmp 48) (Operand.tmp 49) 3, 4, none⟩, ⟨some 51, Op.move (Operand.tmp 50), 4, none⟩, ⟨some 52, Op.move (Operand.tmp 12), 3, some (3, false)⟩, ⟨some 53, Op.move (Operand.tmp 3), 3, some (3, false)⟩, ⟨some 54, Op.binOp BinOp.gtr 3 (Operand.tmp 52) (Operand.tmp 53) 3, 4, some (3, false)⟩, ⟨some 55, Op.pick (Operand.tmp 51) (Operand.const (Value.bool true)) (Operand.tmp 54), 4, none⟩]) (by kernel_rfl) (by kernel_rfl) ?_
            refine TL_q rfl (QV_move rfl) ?_
            refine TL_q rfl (QV_move rfl) ?_
            refine TL_q rfl (QV_gtr rfl rfl) ?_
            refine TL_q rfl (QV_move rfl) ?_
            refine TL_cases (t := 51) rfl (fun hb51 => ?_) (fun hb51 => ?_)
            ·
              refine TL_gs rfl rfl rfl rfl ?_
              refine TL_gs rfl rfl rfl rfl ?_
              refine TL_gs rfl rfl rfl rfl ?_
              refine TL_q rfl (QV_pickT rfl rfl) ?_
              refine TL_nil ?_
              refine W_condT (c := Operand.tmp 55) (by kernel_rfl) rfl ?_
              refine W_seq (by kernel_rfl) ?_
              -- R14
              refine W_reg (l := [⟨some 8, Op.assign (Operand.const (Value.bool false)), 4, none⟩]) (by kernel_rfl) (by kernel_rfl) ?_
              refine TL_q rfl (QV_assign rfl) ?_
              refine TL_nil ?_
              refine W_ret (by kernel_rfl) ?_
              first | exact ⟨_, rfl, rfl, false, rfl, fun h => by cases h⟩ | exact ⟨_, rfl, rfl, true, rfl, fun _ => ⟨by omega, by omega, by omega⟩⟩
            ·
              have h51 := of_decide_eq_false hb51
              refine TL_gq rfl rfl rfl rfl (QV_move rfl) ?_
              refine TL_gq rfl rfl rfl rfl (QV_move rfl) ?_
              refine TL_gq rfl rfl rfl rfl (QV_gtr rfl rfl) ?_
              refine TL_q rfl (QV_pickF rfl rfl) ?_
              refine TL_nil ?_
              refine W_cond (c := Operand.tmp 55) (by kernel_rfl) rfl (fun hc55 => ?_) (fun hc55 => ?_)
              ·
                refine W_seq (by kernel_rfl) ?_
                -- R14
                refine W_reg (l := [⟨some 8, Op.assign (Operand.const (Value.bool false)), 4, none⟩]) (by kernel_rfl) (by kernel_rfl) ?_
                refine TL_q rfl (QV_assign rfl) ?_
                refine TL_nil ?_
                refine W_ret (by kernel_rfl) ?_
                first | exact ⟨_, rfl, rfl, false, rfl, fun h => by cases h⟩ | exact ⟨_, rfl, rfl, true, rfl, fun _ => ⟨by omega, by omega, by omega⟩⟩
              ·
                have h55 := of_decide_eq_false hc55
                refine W_skip (by kernel_rfl) ?_
                refine W_seq (by kernel_rfl) ?_
                -- R15
                refine W_reg (l := [⟨some 56, Op.move (Operand.tmp 9), 3, none⟩, ⟨some 57, Op.move (Operand.tmp 11), 3, none⟩, ⟨some 58, Op.binOp BinOp.mul 3 (Operand.const (Value.int IntKind.i64 8)) (Operand.tmp 57) 3, 3, none⟩, ⟨some 59, Op.move (Operand.tmp 12), 3, none⟩, ⟨some 60, Op.binOp BinOp.mul 3 (Operand.const (Value.int IntKind.i64 8)) (Operand.tmp 59) 3, 3, none⟩, ⟨some 61, Op.binOp BinOp.add 3 (Operand.tmp 58) (Operand.tmp 60) 3, 3, none⟩, ⟨some 62, Op.binOp BinOp.add 3 (Operand.tmp 56) (Operand.tmp 61) 3, 3, none⟩, ⟨some 9, Op.assign (Operand.tmp 62), 3, none⟩]) (by kernel_rfl) (by kernel_rfl) ?_
                refine TL_q rfl (QV_move rfl) ?_
                refine TL_q rfl (QV_move rfl) ?_
                refine TL_q rfl (QV_mul (r := ((8 * (rs.getD k rd0).all.length : Nat) : Int)) rfl rfl (by omega) (by omega) (by omega)) ?_
                refine TL_q rfl (QV_move rfl) ?_
                refine TL_q rfl (QV_mul (r := ((8 * (rs.getD k rd0).unl.length : Nat) : Int)) rfl rfl (by omega) (by omega) (by omega)) ?_
                refine TL_q rfl (QV_add (r := ((8 * (rs.getD k rd0).all.length + 8 * (rs.getD k rd0).unl.length : Nat) : Int)) rfl rfl (by omega) (by omega) (by omega)) ?_
                refine TL_q rfl (QV_add (r := ((56 * rs.length + 8 * tot (rs.take k) + (8 * (rs.getD k rd0).all.length + 8 * (rs.getD k rd0).unl.length) : Nat) : Int)) rfl rfl (by omega) (by omega) (by omega)) ?_
                refine TL_q rfl (QV_assign rfl) ?_
                refine TL_nil ?_
                refine W_seq (by kernel_rfl) ?_
                -- R16
                refine W_reg (l := [⟨some 63, Op.move (Operand.tmp 9), 3, none⟩, ⟨some 64, Op.move (Operand.tmp 3), 3, none⟩, ⟨some 65, Op.binOp BinOp.gtr 3 (Operand.tmp 63) (Operand.tmp 64) 3, 4, none⟩]) (by kernel_rfl) (by kernel_rfl) ?_
                refine TL_q rfl (QV_move rfl) ?_
                refine TL_q rfl (QV_move rfl) ?_
                refine TL_q rfl (QV_gtr rfl rfl) ?_
                refine TL_nil ?_
                refine W_cond (c := Operand.tmp 65) (by kernel_rfl) rfl (fun hc65 => ?_) (fun hc65 => ?_)
                ·
                  refine W_seq (by kernel_rfl) ?_
                  -- R17
                  refine W_reg (l := [⟨some 8, Op.assign (Operand.const (Value.bool false)), 4, none⟩]) (by kernel_rfl) (by kernel_rfl) ?_
                  refine TL_q rfl (QV_assign rfl) ?_
                  refine TL_nil ?_
                  refine W_ret (by kernel_rfl) ?_
                  first | exact ⟨_, rfl, rfl, false, rfl, fun h => by cases h⟩ | exact ⟨_, rfl, rfl, true, rfl, fun _ => ⟨by omega, by omega, by omega⟩⟩
                ·
                  have h65 := of_decide_eq_false hc65
                  refine W_skip (by kernel_rfl) ?_
                  -- R10
                  refine W_reg (l := [⟨some 34, Op.move (Operand.tmp 10), 3, none⟩, ⟨some 35, Op.binOp BinOp.add 3 (Operand.tmp 34) (Operand.const (Value.int IntKind.i64 1)) 3, 3, none⟩, ⟨some 10, Op.assign (Operand.tmp 35), 3, none⟩]) (by kernel_rfl) (by kernel_rfl) ?_
                  refine TL_q rfl (QV_move rfl) ?_
                  refine TL_q rfl (QV_add (r := ((k + 1 : Nat) : Int)) rfl rfl (by omega) (by omega) (by omega)) ?_
                  refine TL_q rfl (QV_assign rfl) ?_
                  refine TL_nil ?_
                  exact ⟨k + 1, ⟨by omega, by omega, rfl⟩, ⟨rfl, rfl, sint (by rw [hts]; omega), rfl, trivial⟩, by omega⟩
          ·
            have hge : k = rs.length := by have := of_decide_eq_false hc33; omega
            subst hge
            rw [List.take_length] at hacc
            refine W_exit 0 (by kernel_rfl) ?_
            show T Try.prog 66 (C Try.f23 [1, 1, 1, 1, 1, 1]) _ _ _
            refine W_seq (by kernel_rfl) ?_
            -- R18
            refine W_reg (l := [⟨some 8, Op.assign (Operand.const (Value.bool true)), 4, none⟩]) (by kernel_rfl) (by kernel_rfl) ?_
            refine TL_q rfl (QV_assign rfl) ?_
            refine TL_nil ?_
            refine W_ret (by kernel_rfl) ?_
            first | exact ⟨_, rfl, rfl, false, rfl, fun h => by cases h⟩ | exact ⟨_, rfl, rfl, true, rfl, fun _ => ⟨by omega, by omega, by omega⟩⟩
set_option maxRecDepth 10000 in
theorem sized (w : World) (B : Nat → Prop) (n : Int) (v : Value) (rs : List RD) (hv : RulesAt w.heap B v rs) :
    CallsS Try.prog 11 #[.int .i64 n, v] w (fun r w' => w' = w ∧ ∃ b, r = .bool b ∧ (b = true → 0 ≤ n ∧ n ≤ 65536 ∧ 56 * rs.length + 8 * tot rs ≤ 1048576)) := by
  refine W_fun [4] Try.func11 rfl Try.ntmps11 Try.results11 (Nat.le_of_ble_eq_true rfl) ?_
  refine W_seq (by kernel_rfl) ?_
  -- R0
  refine W_reg (l := [⟨some 4, Op.assign (Operand.const (Value.bool false)), 4, none⟩]) (by kernel_rfl) (by kernel_rfl) ?_
  refine TL_q rfl (QV_assign rfl) ?_
  refine TL_nil ?_
  refine W_seq (by kernel_rfl) ?_
  -- R1
  refine W_reg (l := [⟨some 5, Op.move (Operand.tmp 0), 3, none⟩, ⟨some 6, Op.move (Operand.tmp 1), 22, none⟩, ⟨some 7, Op.call { callee := Callee.value (Operand.func 23), args := #[Operand.tmp 5, Operand.tmp 6, Operand.const (Value.int IntKind.i64 65536), Operand.const (Value.int IntKind.i64 1048576)], argTypes := #[3, 22, 3, 3] }, 4, none⟩, ⟨some 4, Op.assign (Operand.tmp 7), 4, none⟩]) (by kernel_rfl) (by kernel_rfl) ?_
  refine TL_q rfl (QV_move rfl) ?_
  refine TL_q rfl (QV_move rfl) ?_
  refine TL_e (EV_callD rfl rfl rfl call23 (sizedWithin w B n v rs 65536 1048576 hv (by omega) (by omega)) fun r w2 hR => ?_)
  obtain ⟨rfl, hR⟩ := hR
  refine TL_q rfl (QV_assign rfl) ?_
  refine TL_nil ?_
  refine W_ret (by kernel_rfl) ?_
  exact ⟨_, rfl, rfl, hR⟩

end Go.Proofs.Qxb6600121a
