/-
   Walks written by program (wip/gen).
-/
import Derived.Test.Qxb6600121aData
namespace Go.Proofs.Qxb6600121a
open Go Go.Proofs
set_option linter.unusedVariables false
set_option linter.unusedSimpArgs false

set_option maxRecDepth 10000 in
theorem bytes17 (w : World) (B : Nat → Prop) (n : Int) (v : Value) (rs : List RD) (hv : RulesAt w.heap B v rs) :
    CallsS Try.prog 17 #[.int .i64 n, v] w (fun r w' => w' = w ∧ ∃ b, r = .bool b ∧ (b = true → rs.length + tot rs ≤ 1048576)) := by
  obtain ⟨a, c, rfl, hc, hn, hp⟩ := hv
  refine W_fun [4] Try.func17 rfl Try.ntmps17 Try.results17 (Nat.le_of_ble_eq_true rfl) ?_
  refine W_seq (by kernel_rfl) ?_
  -- R0
  refine W_reg (l := [⟨some 4, Op.assign (Operand.const (Value.bool false)), 4, none⟩]) (by kernel_rfl) (by kernel_rfl) ?_
  refine TL_q rfl (QV_assign rfl) ?_
  refine TL_nil ?_
  refine W_seq (by kernel_rfl) ?_
  -- R1
  refine W_reg (l := [⟨some 5, Op.assign (Operand.const (Value.int IntKind.i64 0)), 3, none⟩]) (by kernel_rfl) (by kernel_rfl) ?_
  refine TL_q rfl (QV_assign rfl) ?_
  refine TL_nil ?_
  refine W_seq (by kernel_rfl) ?_
  refine W_seq (by kernel_rfl) ?_
  -- R2
  refine W_reg (l := [⟨some 7, Op.move (Operand.tmp 1), 22, none⟩, ⟨some 8, Op.call { callee := Callee.builtin Builtin.len, args := #[Operand.tmp 7], argTypes := #[22] }, 3, none⟩, ⟨some 9, Op.binOp BinOp.gtr 3 (Operand.tmp 8) (Operand.const (Value.int IntKind.i64 1048576)) 3, 4, none⟩]) (by kernel_rfl) (by kernel_rfl) ?_
  refine TL_q rfl (QV_move rfl) ?_
  refine TL_q rfl (QV_len rfl el22) ?_
  refine TL_q rfl (QV_gtr rfl rfl) ?_
  refine TL_nil ?_
  refine W_cond (c := Operand.tmp 9) (by kernel_rfl) rfl (fun hc9 => ?_) (fun hc9 => ?_)
  ·
    refine W_seq (by kernel_rfl) ?_
    -- R3
    refine W_reg (l := [⟨some 4, Op.assign (Operand.const (Value.bool false)), 4, none⟩]) (by kernel_rfl) (by kernel_rfl) ?_
    refine TL_q rfl (QV_assign rfl) ?_
    refine TL_nil ?_
    refine W_ret (by kernel_rfl) ?_
    first | exact ⟨_, rfl, rfl, false, rfl, fun h => by cases h⟩ | exact ⟨_, rfl, rfl, true, rfl, fun _ => by omega⟩
  ·
    have h9 := of_decide_eq_false hc9
    refine W_skip (by kernel_rfl) ?_
    refine W_seq (by kernel_rfl) ?_
    -- R4
    refine W_reg (l := [⟨some 10, Op.move (Operand.tmp 5), 3, none⟩, ⟨some 11, Op.move (Operand.tmp 1), 22, none⟩, ⟨some 12, Op.call { callee := Callee.builtin Builtin.len, args := #[Operand.tmp 11], argTypes := #[22] }, 3, none⟩, ⟨some 13, Op.binOp BinOp.add 3 (Operand.tmp 10) (Operand.tmp 12) 3, 3, none⟩, ⟨some 5, Op.assign (Operand.tmp 13), 3, none⟩]) (by kernel_rfl) (by kernel_rfl) ?_
    refine TL_q rfl (QV_move rfl) ?_
    refine TL_q rfl (QV_move rfl) ?_
    refine TL_q rfl (QV_len rfl el22) ?_
    refine TL_q rfl (QV_add (r := ((rs.length : Nat) : Int)) rfl rfl (by omega) (by omega) (by omega)) ?_
    refine TL_q rfl (QV_assign rfl) ?_
    refine TL_nil ?_
    refine W_seq (by kernel_rfl) ?_
    refine W_seq (by kernel_rfl) ?_
    -- R5
    refine W_reg (l := [⟨some 14, Op.move (Operand.tmp 5), 3, none⟩, ⟨some 15, Op.binOp BinOp.gtr 3 (Operand.tmp 14) (Operand.const (Value.int IntKind.i64 1048576)) 3, 4, none⟩]) (by kernel_rfl) (by kernel_rfl) ?_
    refine TL_q rfl (QV_move rfl) ?_
    refine TL_q rfl (QV_gtr rfl rfl) ?_
    refine TL_nil ?_
    refine W_cond (c := Operand.tmp 15) (by kernel_rfl) rfl (fun hc15 => ?_) (fun hc15 => ?_)
    ·
      refine W_seq (by kernel_rfl) ?_
      -- R6
      refine W_reg (l := [⟨some 4, Op.assign (Operand.const (Value.bool false)), 4, none⟩]) (by kernel_rfl) (by kernel_rfl) ?_
      refine TL_q rfl (QV_assign rfl) ?_
      refine TL_nil ?_
      refine W_ret (by kernel_rfl) ?_
      first | exact ⟨_, rfl, rfl, false, rfl, fun h => by cases h⟩ | exact ⟨_, rfl, rfl, true, rfl, fun _ => by omega⟩
    ·
      have h15 := of_decide_eq_false hc15
      refine W_skip (by kernel_rfl) ?_
      refine W_seq (by kernel_rfl) ?_
      refine W_seq (by kernel_rfl) ?_
      -- R7
      refine W_reg (l := [⟨some 6, Op.assign (Operand.const (Value.int IntKind.i64 0)), 3, none⟩]) (by kernel_rfl) (by kernel_rfl) ?_
      refine TL_q rfl (QV_assign rfl) ?_
      refine TL_nil ?_
      refine W_block 0 (by kernel_rfl) ?_
      refine W_loop (fun (k : Nat) w1 => k ≤ rs.length ∧ rs.length + tot (rs.take k) ≤ 1048576 ∧ w1 = w) (fun k => [(1, .slice a rs.length c), (5, .int .i64 ((rs.length + tot (rs.take k) : Nat) : Int)), (6, .int .i64 (k : Int))]) (fun k => rs.length - k) 0 (by kernel_rfl) ?_ ?_ ?_
      · exact ⟨Nat.zero_le _, by simp [tot]; omega, rfl⟩
      · exact ⟨rfl, sint (by simp [tot]), rfl, trivial⟩
      rintro k w1 ⟨hk, hacc, rfl⟩
      refine W_seq (by kernel_rfl) ?_
      refine W_seq (by kernel_rfl) ?_
      -- R8
      refine W_reg (l := [⟨some 16, Op.move (Operand.tmp 6), 3, none⟩, ⟨some 17, Op.move (Operand.tmp 1), 22, none⟩, ⟨some 18, Op.call { callee := Callee.builtin Builtin.len, args := #[Operand.tmp 17], argTypes := #[22] }, 3, none⟩, ⟨some 19, Op.binOp BinOp.lss 3 (Operand.tmp 16) (Operand.tmp 18) 3, 4, none⟩]) (by kernel_rfl) (by kernel_rfl) ?_
      refine TL_q rfl (QV_move rfl) ?_
      refine TL_q rfl (QV_move rfl) ?_
      refine TL_q rfl (QV_len rfl el22) ?_
      refine TL_q rfl (QV_lss rfl rfl) ?_
      refine TL_nil ?_
      refine W_cond (c := Operand.tmp 19) (by kernel_rfl) rfl (fun hc19 => ?_) (fun hc19 => ?_)
      ·
        have hlt : k < rs.length := by have := of_decide_eq_true hc19; omega
        obtain ⟨b, o, rfl, hbB, hcel⟩ := hp (by omega)
        obtain ⟨g1, va, vu, g2, g3, ⟨aa, ca, rfl, -⟩, ⟨au, cu, rfl, -⟩⟩ := hcel k hlt
        have hts := tot_take_succ rs k hlt
        refine W_skip (by kernel_rfl) ?_
        refine W_seq (by kernel_rfl) ?_
        refine W_block 1 (by kernel_rfl) ?_
        refine W_seq (by kernel_rfl) ?_
        refine W_seq (by kernel_rfl) ?_
        -- R10
        refine W_reg (l := [⟨some 22, Op.move (Operand.tmp 1), 22, none⟩, ⟨some 23, Op.move (Operand.tmp 6), 3, none⟩, ⟨some 24, Op.indexAddr 22 (Operand.tmp 22) (Operand.tmp 23), 0, none⟩, ⟨some 25, Op.fieldAddr 33 (Operand.tmp 24) 1, 0, none⟩, ⟨some 26, Op.load 27 (Operand.tmp 25), 27, none⟩, ⟨some 27, Op.call { callee := Callee.builtin Builtin.len, args := #[Operand.tmp 26], argTypes := #[27] }, 3, none⟩, ⟨some 28, Op.binOp BinOp.gtr 3 (Operand.tmp 27) (Operand.const (Value.int IntKind.i64 1048576)) 3, 4, none⟩]) (by kernel_rfl) (by kernel_rfl) ?_
        refine TL_q rfl (QV_move rfl) ?_
        refine TL_q rfl (QV_move rfl) ?_
        refine TL_q rfl (QV_idx rfl rfl el22 sz33 (hlt)) ?_
        refine TL_q rfl (QV_field rfl fld33_1) ?_
        refine TL_q rfl (QV_load rfl one27 (g2)) ?_
        refine TL_q rfl (QV_len rfl el27) ?_
        refine TL_q rfl (QV_gtr rfl rfl) ?_
        refine TL_nil ?_
        refine W_cond (c := Operand.tmp 28) (by kernel_rfl) rfl (fun hc28 => ?_) (fun hc28 => ?_)
        ·
          refine W_seq (by kernel_rfl) ?_
          -- R11
          refine W_reg (l := [⟨some 4, Op.assign (Operand.const (Value.bool false)), 4, none⟩]) (by kernel_rfl) (by kernel_rfl) ?_
          refine TL_q rfl (QV_assign rfl) ?_
          refine TL_nil ?_
          refine W_ret (by kernel_rfl) ?_
          first | exact ⟨_, rfl, rfl, false, rfl, fun h => by cases h⟩ | exact ⟨_, rfl, rfl, true, rfl, fun _ => by omega⟩
        ·
          have h28 := of_decide_eq_false hc28
          refine W_skip (by kernel_rfl) ?_
          refine W_seq (by kernel_rfl) ?_
          -- R12
          refine W_reg (l := [⟨some 29, Op.move (Operand.tmp 5), 3, none⟩, ⟨some 30, Op.move (Operand.tmp 1), 22, none⟩, ⟨some 31, Op.move (Operand.tmp 6), 3, none⟩, ⟨some 32, Op.indexAddr 22 (Operand.tmp 30) (Operand.tmp 31), 0, none⟩, ⟨some 33, Op.fieldAddr 33 (Operand.tmp 32) 1, 0, none⟩, ⟨some 34, Op.load 27 (Operand.tmp 33), 27, none⟩, ⟨some 35, Op.call { callee := Callee.builtin Builtin.len, args := #[Operand.tmp 34], argTypes := #[27] }, 3, none⟩, ⟨some 36, Op.binOp BinOp.add 3 (Operand.tmp 29) (Operand.tmp 35) 3, 3, none⟩, ⟨some 5, Op.assign (Operand.tmp 36), 3, none⟩]) (by kernel_rfl) (by kernel_rfl) ?_
          refine TL_q rfl (QV_move rfl) ?_
          refine TL_q rfl (QV_move rfl) ?_
          refine TL_q rfl (QV_move rfl) ?_
          refine TL_q rfl (QV_idx rfl rfl el22 sz33 (hlt)) ?_
          refine TL_q rfl (QV_field rfl fld33_1) ?_
          refine TL_q rfl (QV_load rfl one27 (g2)) ?_
          refine TL_q rfl (QV_len rfl el27) ?_
          refine TL_q rfl (QV_add (r := ((rs.length + tot (rs.take k) + (rs.getD k rd0).all.length : Nat) : Int)) rfl rfl (by omega) (by omega) (by omega)) ?_
          refine TL_q rfl (QV_assign rfl) ?_
          refine TL_nil ?_
          refine W_seq (by kernel_rfl) ?_
          refine W_seq (by kernel_rfl) ?_
          -- R13
          refine W_reg (l := [⟨some 37, Op.move (Operand.tmp 5), 3, none⟩, ⟨some 38, Op.binOp BinOp.gtr 3 (Operand.tmp 37) (Operand.const (Value.int IntKind.i64 1048576)) 3, 4, none⟩]) (by kernel_rfl) (by kernel_rfl) ?_
          refine TL_q rfl (QV_move rfl) ?_
          refine TL_q rfl (QV_gtr rfl rfl) ?_
          refine TL_nil ?_
          refine W_cond (c := Operand.tmp 38) (by kernel_rfl) rfl (fun hc38 => ?_) (fun hc38 => ?_)
          ·
            refine W_seq (by kernel_rfl) ?_
            -- R14
            refine W_reg (l := [⟨some 4, Op.assign (Operand.const (Value.bool false)), 4, none⟩]) (by kernel_rfl) (by kernel_rfl) ?_
            refine TL_q rfl (QV_assign rfl) ?_
            refine TL_nil ?_
            refine W_ret (by kernel_rfl) ?_
            first | exact ⟨_, rfl, rfl, false, rfl, fun h => by cases h⟩ | exact ⟨_, rfl, rfl, true, rfl, fun _ => by omega⟩
          ·
            have h38 := of_decide_eq_false hc38
            refine W_skip (by kernel_rfl) ?_
            refine W_seq (by kernel_rfl) ?_
            refine W_seq (by kernel_rfl) ?_
            -- R15
            refine W_reg (l := [⟨some 39, Op.move (Operand.tmp 1), 22, none⟩, ⟨some 40, Op.move (Operand.tmp 6), 3, none⟩, ⟨some 41, Op.indexAddr 22 (Operand.tmp 39) (Operand.tmp 40), 0, none⟩, ⟨some 42, Op.fieldAddr 33 (Operand.tmp 41) 2, 0, none⟩, ⟨some 43, Op.load 27 (Operand.tmp 42), 27, none⟩, ⟨some 44, Op.call { callee := Callee.builtin Builtin.len, args := #[Operand.tmp 43], argTypes := #[27] }, 3, none⟩, ⟨some 45, Op.binOp BinOp.gtr 3 (Operand.tmp 44) (Operand.const (Value.int IntKind.i64 1048576)) 3, 4, none⟩]) (by kernel_rfl) (by kernel_rfl) ?_
            refine TL_q rfl (QV_move rfl) ?_
            refine TL_q rfl (QV_move rfl) ?_
            refine TL_q rfl (QV_idx rfl rfl el22 sz33 (hlt)) ?_
            refine TL_q rfl (QV_field rfl fld33_2) ?_
            refine TL_q rfl (QV_load rfl one27 (g3)) ?_
            refine TL_q rfl (QV_len rfl el27) ?_
            refine TL_q rfl (QV_gtr rfl rfl) ?_
            refine TL_nil ?_
            refine W_cond (c := Operand.tmp 45) (by kernel_rfl) rfl (fun hc45 => ?_) (fun hc45 => ?_)
            ·
              refine W_seq (by kernel_rfl) ?_
              -- R16
              refine W_reg (l := [⟨some 4, Op.assign (Operand.const (Value.bool false)), 4, none⟩]) (by kernel_rfl) (by kernel_rfl) ?_
              refine TL_q rfl (QV_assign rfl) ?_
              refine TL_nil ?_
              refine W_ret (by kernel_rfl) ?_
              first | exact ⟨_, rfl, rfl, false, rfl, fun h => by cases h⟩ | exact ⟨_, rfl, rfl, true, rfl, fun _ => by omega⟩
            ·
              have h45 := of_decide_eq_false hc45
              refine W_skip (by kernel_rfl) ?_
              refine W_seq (by kernel_rfl) ?_
              -- R17
              refine W_reg (l := [⟨some 46, Op.move (Operand.tmp 5), 3, none⟩, ⟨some 47, Op.move (Operand.tmp 1), 22, none⟩, ⟨some 48, Op.move (Operand.tmp 6), 3, none⟩, ⟨some 49, Op.indexAddr 22 (Operand.tmp 47) (Operand.tmp 48), 0, none⟩, ⟨some 50, Op.fieldAddr 33 (Operand.tmp 49) 2, 0, none⟩, ⟨some 51, Op.load 27 (Operand.tmp 50), 27, none⟩, ⟨some 52, Op.call { callee := Callee.builtin Builtin.len, args := #[Operand.tmp 51], argTypes := #[27] }, 3, none⟩, ⟨some 53, Op.binOp BinOp.add 3 (Operand.tmp 46) (Operand.tmp 52) 3, 3, none⟩, ⟨some 5, Op.assign (Operand.tmp 53), 3, none⟩]) (by kernel_rfl) (by kernel_rfl) ?_
              refine TL_q rfl (QV_move rfl) ?_
              refine TL_q rfl (QV_move rfl) ?_
              refine TL_q rfl (QV_move rfl) ?_
              refine TL_q rfl (QV_idx rfl rfl el22 sz33 (hlt)) ?_
              refine TL_q rfl (QV_field rfl fld33_2) ?_
              refine TL_q rfl (QV_load rfl one27 (g3)) ?_
              refine TL_q rfl (QV_len rfl el27) ?_
              refine TL_q rfl (QV_add (r := ((rs.length + tot (rs.take k) + (rs.getD k rd0).all.length + (rs.getD k rd0).unl.length : Nat) : Int)) rfl rfl (by omega) (by omega) (by omega)) ?_
              refine TL_q rfl (QV_assign rfl) ?_
              refine TL_nil ?_
              refine W_seq (by kernel_rfl) ?_
              -- R18
              refine W_reg (l := [⟨some 54, Op.move (Operand.tmp 5), 3, none⟩, ⟨some 55, Op.binOp BinOp.gtr 3 (Operand.tmp 54) (Operand.const (Value.int IntKind.i64 1048576)) 3, 4, none⟩]) (by kernel_rfl) (by kernel_rfl) ?_
              refine TL_q rfl (QV_move rfl) ?_
              refine TL_q rfl (QV_gtr rfl rfl) ?_
              refine TL_nil ?_
              refine W_cond (c := Operand.tmp 55) (by kernel_rfl) rfl (fun hc55 => ?_) (fun hc55 => ?_)
              ·
                refine W_seq (by kernel_rfl) ?_
                -- R19
                refine W_reg (l := [⟨some 4, Op.assign (Operand.const (Value.bool false)), 4, none⟩]) (by kernel_rfl) (by kernel_rfl) ?_
                refine TL_q rfl (QV_assign rfl) ?_
                refine TL_nil ?_
                refine W_ret (by kernel_rfl) ?_
                first | exact ⟨_, rfl, rfl, false, rfl, fun h => by cases h⟩ | exact ⟨_, rfl, rfl, true, rfl, fun _ => by omega⟩
              ·
                have h55 := of_decide_eq_false hc55
                refine W_skip (by kernel_rfl) ?_
                -- R9
                refine W_reg (l := [⟨some 20, Op.move (Operand.tmp 6), 3, none⟩, ⟨some 21, Op.binOp BinOp.add 3 (Operand.tmp 20) (Operand.const (Value.int IntKind.i64 1)) 3, 3, none⟩, ⟨some 6, Op.assign (Operand.tmp 21), 3, none⟩]) (by kernel_rfl) (by kernel_rfl) ?_
                refine TL_q rfl (QV_move rfl) ?_
                refine TL_q rfl (QV_add (r := ((k + 1 : Nat) : Int)) rfl rfl (by omega) (by omega) (by omega)) ?_
                refine TL_q rfl (QV_assign rfl) ?_
                refine TL_nil ?_
                exact ⟨k + 1, ⟨by omega, by omega, rfl⟩, ⟨rfl, sint (by rw [hts]; omega), rfl, trivial⟩, by omega⟩
      ·
        have hge : k = rs.length := by have := of_decide_eq_false hc19; omega
        subst hge
        rw [List.take_length] at hacc
        refine W_exit 0 (by kernel_rfl) ?_
        show T Try.prog 56 (C Try.f17 [1, 1, 1, 1, 1, 1]) _ _ _
        refine W_seq (by kernel_rfl) ?_
        -- R20
        refine W_reg (l := [⟨some 4, Op.assign (Operand.const (Value.bool true)), 4, none⟩]) (by kernel_rfl) (by kernel_rfl) ?_
        refine TL_q rfl (QV_assign rfl) ?_
        refine TL_nil ?_
        refine W_ret (by kernel_rfl) ?_
        first | exact ⟨_, rfl, rfl, false, rfl, fun h => by cases h⟩ | exact ⟨_, rfl, rfl, true, rfl, fun _ => by omega⟩

set_option maxRecDepth 10000 in
theorem bytes19 (w : World) (B : Nat → Prop) (n : Int) (v : Value) (rs : List RD) (hv : RulesAt w.heap B v rs) :
    CallsS Try.prog 19 #[.int .i64 n, v] w (fun r w' => w' = w ∧ ∃ b, r = .bool b ∧ (b = true → rs.length + tot rs ≤ 1048576)) := by
  obtain ⟨a, c, rfl, hc, hn, hp⟩ := hv
  refine W_fun [4] Try.func19 rfl Try.ntmps19 Try.results19 (Nat.le_of_ble_eq_true rfl) ?_
  refine W_seq (by kernel_rfl) ?_
  -- R0
  refine W_reg (l := [⟨some 4, Op.assign (Operand.const (Value.bool false)), 4, none⟩]) (by kernel_rfl) (by kernel_rfl) ?_
  refine TL_q rfl (QV_assign rfl) ?_
  refine TL_nil ?_
  refine W_seq (by kernel_rfl) ?_
  -- R1
  refine W_reg (l := [⟨some 5, Op.assign (Operand.const (Value.int IntKind.i64 0)), 3, none⟩]) (by kernel_rfl) (by kernel_rfl) ?_
  refine TL_q rfl (QV_assign rfl) ?_
  refine TL_nil ?_
  refine W_seq (by kernel_rfl) ?_
  refine W_seq (by kernel_rfl) ?_
  -- R2
  refine W_reg (l := [⟨some 7, Op.move (Operand.tmp 1), 22, none⟩, ⟨some 8, Op.call { callee := Callee.builtin Builtin.len, args := #[Operand.tmp 7], argTypes := #[22] }, 3, none⟩, ⟨some 9, Op.binOp BinOp.gtr 3 (Operand.tmp 8) (Operand.const (Value.int IntKind.i64 1048576)) 3, 4, none⟩]) (by kernel_rfl) (by kernel_rfl) ?_
  refine TL_q rfl (QV_move rfl) ?_
  refine TL_q rfl (QV_len rfl el22) ?_
  refine TL_q rfl (QV_gtr rfl rfl) ?_
  refine TL_nil ?_
  refine W_cond (c := Operand.tmp 9) (by kernel_rfl) rfl (fun hc9 => ?_) (fun hc9 => ?_)
  ·
    refine W_seq (by kernel_rfl) ?_
    -- R3
    refine W_reg (l := [⟨some 4, Op.assign (Operand.const (Value.bool false)), 4, none⟩]) (by kernel_rfl) (by kernel_rfl) ?_
    refine TL_q rfl (QV_assign rfl) ?_
    refine TL_nil ?_
    refine W_ret (by kernel_rfl) ?_
    first | exact ⟨_, rfl, rfl, false, rfl, fun h => by cases h⟩ | exact ⟨_, rfl, rfl, true, rfl, fun _ => by omega⟩
  ·
    have h9 := of_decide_eq_false hc9
    refine W_skip (by kernel_rfl) ?_
    refine W_seq (by kernel_rfl) ?_
    -- R4
    refine W_reg (l := [⟨some 10, Op.move (Operand.tmp 5), 3, none⟩, ⟨some 11, Op.move (Operand.tmp 1), 22, none⟩, ⟨some 12, Op.call { callee := Callee.builtin Builtin.len, args := #[Operand.tmp 11], argTypes := #[22] }, 3, none⟩, ⟨some 13, Op.binOp BinOp.add 3 (Operand.tmp 10) (Operand.tmp 12) 3, 3, none⟩, ⟨some 5, Op.assign (Operand.tmp 13), 3, none⟩]) (by kernel_rfl) (by kernel_rfl) ?_
    refine TL_q rfl (QV_move rfl) ?_
    refine TL_q rfl (QV_move rfl) ?_
    refine TL_q rfl (QV_len rfl el22) ?_
    refine TL_q rfl (QV_add (r := ((rs.length : Nat) : Int)) rfl rfl (by omega) (by omega) (by omega)) ?_
    refine TL_q rfl (QV_assign rfl) ?_
    refine TL_nil ?_
    refine W_seq (by kernel_rfl) ?_
    refine W_seq (by kernel_rfl) ?_
    -- R5
    refine W_reg (l := [⟨some 14, Op.move (Operand.tmp 5), 3, none⟩, ⟨some 15, Op.binOp BinOp.gtr 3 (Operand.tmp 14) (Operand.const (Value.int IntKind.i64 1048576)) 3, 4, none⟩]) (by kernel_rfl) (by kernel_rfl) ?_
    refine TL_q rfl (QV_move rfl) ?_
    refine TL_q rfl (QV_gtr rfl rfl) ?_
    refine TL_nil ?_
    refine W_cond (c := Operand.tmp 15) (by kernel_rfl) rfl (fun hc15 => ?_) (fun hc15 => ?_)
    ·
      refine W_seq (by kernel_rfl) ?_
      -- R6
      refine W_reg (l := [⟨some 4, Op.assign (Operand.const (Value.bool false)), 4, none⟩]) (by kernel_rfl) (by kernel_rfl) ?_
      refine TL_q rfl (QV_assign rfl) ?_
      refine TL_nil ?_
      refine W_ret (by kernel_rfl) ?_
      first | exact ⟨_, rfl, rfl, false, rfl, fun h => by cases h⟩ | exact ⟨_, rfl, rfl, true, rfl, fun _ => by omega⟩
    ·
      have h15 := of_decide_eq_false hc15
      refine W_skip (by kernel_rfl) ?_
      refine W_seq (by kernel_rfl) ?_
      refine W_seq (by kernel_rfl) ?_
      -- R7
      refine W_reg (l := [⟨some 6, Op.assign (Operand.const (Value.int IntKind.i64 0)), 3, none⟩]) (by kernel_rfl) (by kernel_rfl) ?_
      refine TL_q rfl (QV_assign rfl) ?_
      refine TL_nil ?_
      refine W_block 0 (by kernel_rfl) ?_
      refine W_loop (fun (k : Nat) w1 => k ≤ rs.length ∧ rs.length + tot (rs.take k) ≤ 1048576 ∧ w1 = w) (fun k => [(1, .slice a rs.length c), (5, .int .i64 ((rs.length + tot (rs.take k) : Nat) : Int)), (6, .int .i64 (k : Int))]) (fun k => rs.length - k) 0 (by kernel_rfl) ?_ ?_ ?_
      · exact ⟨Nat.zero_le _, by simp [tot]; omega, rfl⟩
      · exact ⟨rfl, sint (by simp [tot]), rfl, trivial⟩
      rintro k w1 ⟨hk, hacc, rfl⟩
      refine W_seq (by kernel_rfl) ?_
      refine W_seq (by kernel_rfl) ?_
      -- R8
      refine W_reg (l := [⟨some 16, Op.move (Operand.tmp 6), 3, none⟩, ⟨some 17, Op.move (Operand.tmp 1), 22, none⟩, ⟨some 18, Op.call { callee := Callee.builtin Builtin.len, args := #[Operand.tmp 17], argTypes := #[22] }, 3, none⟩, ⟨some 19, Op.binOp BinOp.lss 3 (Operand.tmp 16) (Operand.tmp 18) 3, 4, none⟩]) (by kernel_rfl) (by kernel_rfl) ?_
      refine TL_q rfl (QV_move rfl) ?_
      refine TL_q rfl (QV_move rfl) ?_
      refine TL_q rfl (QV_len rfl el22) ?_
      refine TL_q rfl (QV_lss rfl rfl) ?_
      refine TL_nil ?_
      refine W_cond (c := Operand.tmp 19) (by kernel_rfl) rfl (fun hc19 => ?_) (fun hc19 => ?_)
      ·
        have hlt : k < rs.length := by have := of_decide_eq_true hc19; omega
        obtain ⟨b, o, rfl, hbB, hcel⟩ := hp (by omega)
        obtain ⟨g1, va, vu, g2, g3, ⟨aa, ca, rfl, -⟩, ⟨au, cu, rfl, -⟩⟩ := hcel k hlt
        have hts := tot_take_succ rs k hlt
        refine W_skip (by kernel_rfl) ?_
        refine W_seq (by kernel_rfl) ?_
        refine W_block 1 (by kernel_rfl) ?_
        refine W_seq (by kernel_rfl) ?_
        refine W_seq (by kernel_rfl) ?_
        -- R10
        refine W_reg (l := [⟨some 22, Op.move (Operand.tmp 1), 22, none⟩, ⟨some 23, Op.move (Operand.tmp 6), 3, none⟩, ⟨some 24, Op.indexAddr 22 (Operand.tmp 22) (Operand.tmp 23), 0, none⟩, ⟨some 25, Op.fieldAddr 33 (Operand.tmp 24) 1, 0, none⟩, ⟨some 26, Op.load 27 (Operand.tmp 25), 27, none⟩, ⟨some 27, Op.call { callee := Callee.builtin Builtin.len, args := #[Operand.tmp 26], argTypes := #[27] }, 3, none⟩, ⟨some 28, Op.binOp BinOp.gtr 3 (Operand.tmp 27) (Operand.const (Value.int IntKind.i64 1048576)) 3, 4, none⟩]) (by kernel_rfl) (by kernel_rfl) ?_
        refine TL_q rfl (QV_move rfl) ?_
        refine TL_q rfl (QV_move rfl) ?_
        refine TL_q rfl (QV_idx rfl rfl el22 sz33 (hlt)) ?_
        refine TL_q rfl (QV_field rfl fld33_1) ?_
        refine TL_q rfl (QV_load rfl one27 (g2)) ?_
        refine TL_q rfl (QV_len rfl el27) ?_
        refine TL_q rfl (QV_gtr rfl rfl) ?_
        refine TL_nil ?_
        refine W_cond (c := Operand.tmp 28) (by kernel_rfl) rfl (fun hc28 => ?_) (fun hc28 => ?_)
        ·
          refine W_seq (by kernel_rfl) ?_
          -- R11
          refine W_reg (l := [⟨some 4, Op.assign (Operand.const (Value.bool false)), 4, none⟩]) (by kernel_rfl) (by kernel_rfl) ?_
          refine TL_q rfl (QV_assign rfl) ?_
          refine TL_nil ?_
          refine W_ret (by kernel_rfl) ?_
          first | exact ⟨_, rfl, rfl, false, rfl, fun h => by cases h⟩ | exact ⟨_, rfl, rfl, true, rfl, fun _ => by omega⟩
        ·
          have h28 := of_decide_eq_false hc28
          refine W_skip (by kernel_rfl) ?_
          refine W_seq (by kernel_rfl) ?_
          -- R12
          refine W_reg (l := [⟨some 29, Op.move (Operand.tmp 5), 3, none⟩, ⟨some 30, Op.move (Operand.tmp 1), 22, none⟩, ⟨some 31, Op.move (Operand.tmp 6), 3, none⟩, ⟨some 32, Op.indexAddr 22 (Operand.tmp 30) (Operand.tmp 31), 0, none⟩, ⟨some 33, Op.fieldAddr 33 (Operand.tmp 32) 1, 0, none⟩, ⟨some 34, Op.load 27 (Operand.tmp 33), 27, none⟩, ⟨some 35, Op.call { callee := Callee.builtin Builtin.len, args := #[Operand.tmp 34], argTypes := #[27] }, 3, none⟩, ⟨some 36, Op.binOp BinOp.add 3 (Operand.tmp 29) (Operand.tmp 35) 3, 3, none⟩, ⟨some 5, Op.assign (Operand.tmp 36), 3, none⟩]) (by kernel_rfl) (by kernel_rfl) ?_
          refine TL_q rfl (QV_move rfl) ?_
          refine TL_q rfl (QV_move rfl) ?_
          refine TL_q rfl (QV_move rfl) ?_
          refine TL_q rfl (QV_idx rfl rfl el22 sz33 (hlt)) ?_
          refine TL_q rfl (QV_field rfl fld33_1) ?_
          refine TL_q rfl (QV_load rfl one27 (g2)) ?_
          refine TL_q rfl (QV_len rfl el27) ?_
          refine TL_q rfl (QV_add (r := ((rs.length + tot (rs.take k) + (rs.getD k rd0).all.length : Nat) : Int)) rfl rfl (by omega) (by omega) (by omega)) ?_
          refine TL_q rfl (QV_assign rfl) ?_
          refine TL_nil ?_
          refine W_seq (by kernel_rfl) ?_
          refine W_seq (by kernel_rfl) ?_
          -- R13
          refine W_reg (l := [⟨some 37, Op.move (Operand.tmp 5), 3, none⟩, ⟨some 38, Op.binOp BinOp.gtr 3 (Operand.tmp 37) (Operand.const (Value.int IntKind.i64 1048576)) 3, 4, none⟩]) (by kernel_rfl) (by kernel_rfl) ?_
          refine TL_q rfl (QV_move rfl) ?_
          refine TL_q rfl (QV_gtr rfl rfl) ?_
          refine TL_nil ?_
          refine W_cond (c := Operand.tmp 38) (by kernel_rfl) rfl (fun hc38 => ?_) (fun hc38 => ?_)
          ·
            refine W_seq (by kernel_rfl) ?_
            -- R14
            refine W_reg (l := [⟨some 4, Op.assign (Operand.const (Value.bool false)), 4, none⟩]) (by kernel_rfl) (by kernel_rfl) ?_
            refine TL_q rfl (QV_assign rfl) ?_
            refine TL_nil ?_
            refine W_ret (by kernel_rfl) ?_
            first | exact ⟨_, rfl, rfl, false, rfl, fun h => by cases h⟩ | exact ⟨_, rfl, rfl, true, rfl, fun _ => by omega⟩
          ·
            have h38 := of_decide_eq_false hc38
            refine W_skip (by kernel_rfl) ?_
            refine W_seq (by kernel_rfl) ?_
            refine W_seq (by kernel_rfl) ?_
            -- R15
            refine W_reg (l := [⟨some 39, Op.move (Operand.tmp 1), 22, none⟩, ⟨some 40, Op.move (Operand.tmp 6), 3, none⟩, ⟨some 41, Op.indexAddr 22 (Operand.tmp 39) (Operand.tmp 40), 0, none⟩, ⟨some 42, Op.fieldAddr 33 (Operand.tmp 41) 2, 0, none⟩, ⟨some 43, Op.load 27 (Operand.tmp 42), 27, none⟩, ⟨some 44, Op.call { callee := Callee.builtin Builtin.len, args := #[Operand.tmp 43], argTypes := #[27] }, 3, none⟩, ⟨some 45, Op.binOp BinOp.gtr 3 (Operand.tmp 44) (Operand.const (Value.int IntKind.i64 1048576)) 3, 4, none⟩]) (by kernel_rfl) (by kernel_rfl) ?_
            refine TL_q rfl (QV_move rfl) ?_
            refine TL_q rfl (QV_move rfl) ?_
            refine TL_q rfl (QV_idx rfl rfl el22 sz33 (hlt)) ?_
            refine TL_q rfl (QV_field rfl fld33_2) ?_
            refine TL_q rfl (QV_load rfl one27 (g3)) ?_
            refine TL_q rfl (QV_len rfl el27) ?_
            refine TL_q rfl (QV_gtr rfl rfl) ?_
            refine TL_nil ?_
            refine W_cond (c := Operand.tmp 45) (by kernel_rfl) rfl (fun hc45 => ?_) (fun hc45 => ?_)
            ·
              refine W_seq (by kernel_rfl) ?_
              -- R16
              refine W_reg (l := [⟨some 4, Op.assign (Operand.const (Value.bool false)), 4, none⟩]) (by kernel_rfl) (by kernel_rfl) ?_
              refine TL_q rfl (QV_assign rfl) ?_
              refine TL_nil ?_
              refine W_ret (by kernel_rfl) ?_
              first | exact ⟨_, rfl, rfl, false, rfl, fun h => by cases h⟩ | exact ⟨_, rfl, rfl, true, rfl, fun _ => by omega⟩
            ·
              have h45 := of_decide_eq_false hc45
              refine W_skip (by kernel_rfl) ?_
              refine W_seq (by kernel_rfl) ?_
              -- R17
              refine W_reg (l := [⟨some 46, Op.move (Operand.tmp 5), 3, none⟩, ⟨some 47, Op.move (Operand.tmp 1), 22, none⟩, ⟨some 48, Op.move (Operand.tmp 6), 3, none⟩, ⟨some 49, Op.indexAddr 22 (Operand.tmp 47) (Operand.tmp 48), 0, none⟩, ⟨some 50, Op.fieldAddr 33 (Operand.tmp 49) 2, 0, none⟩, ⟨some 51, Op.load 27 (Operand.tmp 50), 27, none⟩, ⟨some 52, Op.call { callee := Callee.builtin Builtin.len, args := #[Operand.tmp 51], argTypes := #[27] }, 3, none⟩, ⟨some 53, Op.binOp BinOp.add 3 (Operand.tmp 46) (Operand.tmp 52) 3, 3, none⟩, ⟨some 5, Op.assign (Operand.tmp 53), 3, none⟩]) (by kernel_rfl) (by kernel_rfl) ?_
              refine TL_q rfl (QV_move rfl) ?_
              refine TL_q rfl (QV_move rfl) ?_
              refine TL_q rfl (QV_move rfl) ?_
              refine TL_q rfl (QV_idx rfl rfl el22 sz33 (hlt)) ?_
              refine TL_q rfl (QV_field rfl fld33_2) ?_
              refine TL_q rfl (QV_load rfl one27 (g3)) ?_
              refine TL_q rfl (QV_len rfl el27) ?_
              refine TL_q rfl (QV_add (r := ((rs.length + tot (rs.take k) + (rs.getD k rd0).all.length + (rs.getD k rd0).unl.length : Nat) : Int)) rfl rfl (by omega) (by omega) (by omega)) ?_
              refine TL_q rfl (QV_assign rfl) ?_
              refine TL_nil ?_
              refine W_seq (by kernel_rfl) ?_
              -- R18
              refine W_reg (l := [⟨some 54, Op.move (Operand.tmp 5), 3, none⟩, ⟨some 55, Op.binOp BinOp.gtr 3 (Operand.tmp 54) (Operand.const (Value.int IntKind.i64 1048576)) 3, 4, none⟩]) (by kernel_rfl) (by kernel_rfl) ?_
              refine TL_q rfl (QV_move rfl) ?_
              refine TL_q rfl (QV_gtr rfl rfl) ?_
              refine TL_nil ?_
              refine W_cond (c := Operand.tmp 55) (by kernel_rfl) rfl (fun hc55 => ?_) (fun hc55 => ?_)
              ·
                refine W_seq (by kernel_rfl) ?_
                -- R19
                refine W_reg (l := [⟨some 4, Op.assign (Operand.const (Value.bool false)), 4, none⟩]) (by kernel_rfl) (by kernel_rfl) ?_
                refine TL_q rfl (QV_assign rfl) ?_
                refine TL_nil ?_
                refine W_ret (by kernel_rfl) ?_
                first | exact ⟨_, rfl, rfl, false, rfl, fun h => by cases h⟩ | exact ⟨_, rfl, rfl, true, rfl, fun _ => by omega⟩
              ·
                have h55 := of_decide_eq_false hc55
                refine W_skip (by kernel_rfl) ?_
                -- R9
                refine W_reg (l := [⟨some 20, Op.move (Operand.tmp 6), 3, none⟩, ⟨some 21, Op.binOp BinOp.add 3 (Operand.tmp 20) (Operand.const (Value.int IntKind.i64 1)) 3, 3, none⟩, ⟨some 6, Op.assign (Operand.tmp 21), 3, none⟩]) (by kernel_rfl) (by kernel_rfl) ?_
                refine TL_q rfl (QV_move rfl) ?_
                refine TL_q rfl (QV_add (r := ((k + 1 : Nat) : Int)) rfl rfl (by omega) (by omega) (by omega)) ?_
                refine TL_q rfl (QV_assign rfl) ?_
                refine TL_nil ?_
                exact ⟨k + 1, ⟨by omega, by omega, rfl⟩, ⟨rfl, sint (by rw [hts]; omega), rfl, trivial⟩, by omega⟩
      ·
        have hge : k = rs.length := by have := of_decide_eq_false hc19; omega
        subst hge
        rw [List.take_length] at hacc
        refine W_exit 0 (by kernel_rfl) ?_
        show T Try.prog 56 (C Try.f19 [1, 1, 1, 1, 1, 1]) _ _ _
        refine W_seq (by kernel_rfl) ?_
        -- R20
        refine W_reg (l := [⟨some 4, Op.assign (Operand.const (Value.bool true)), 4, none⟩]) (by kernel_rfl) (by kernel_rfl) ?_
        refine TL_q rfl (QV_assign rfl) ?_
        refine TL_nil ?_
        refine W_ret (by kernel_rfl) ?_
        first | exact ⟨_, rfl, rfl, false, rfl, fun h => by cases h⟩ | exact ⟨_, rfl, rfl, true, rfl, fun _ => by omega⟩

set_option maxRecDepth 10000 in
theorem bytes22 (w : World) (B : Nat → Prop) (n : Int) (v : Value) (rs : List RD) (hv : RulesAt w.heap B v rs) :
    CallsS Try.prog 22 #[.int .i64 n, v] w (fun r w' => w' = w ∧ ∃ b, r = .bool b ∧ (b = true → rs.length + tot rs ≤ 1048576)) := by
  obtain ⟨a, c, rfl, hc, hn, hp⟩ := hv
  refine W_fun [4] Try.func22 rfl Try.ntmps22 Try.results22 (Nat.le_of_ble_eq_true rfl) ?_
  refine W_seq (by kernel_rfl) ?_
  -- R0
  refine W_reg (l := [⟨some 4, Op.assign (Operand.const (Value.bool false)), 4, none⟩]) (by kernel_rfl) (by kernel_rfl) ?_
  refine TL_q rfl (QV_assign rfl) ?_
  refine TL_nil ?_
  refine W_seq (by kernel_rfl) ?_
  -- R1
  refine W_reg (l := [⟨some 5, Op.assign (Operand.const (Value.int IntKind.i64 0)), 3, none⟩]) (by kernel_rfl) (by kernel_rfl) ?_
  refine TL_q rfl (QV_assign rfl) ?_
  refine TL_nil ?_
  refine W_seq (by kernel_rfl) ?_
  refine W_seq (by kernel_rfl) ?_
  -- R2
  refine W_reg (l := [⟨some 7, Op.move (Operand.tmp 1), 22, none⟩, ⟨some 8, Op.call { callee := Callee.builtin Builtin.len, args := #[Operand.tmp 7], argTypes := #[22] }, 3, none⟩, ⟨some 9, Op.binOp BinOp.gtr 3 (Operand.tmp 8) (Operand.const (Value.int IntKind.i64 1048576)) 3, 4, none⟩]) (by kernel_rfl) (by kernel_rfl) ?_
  refine TL_q rfl (QV_move rfl) ?_
  refine TL_q rfl (QV_len rfl el22) ?_
  refine TL_q rfl (QV_gtr rfl rfl) ?_
  refine TL_nil ?_
  refine W_cond (c := Operand.tmp 9) (by kernel_rfl) rfl (fun hc9 => ?_) (fun hc9 => ?_)
  ·
    refine W_seq (by kernel_rfl) ?_
    -- R3
    refine W_reg (l := [⟨some 4, Op.assign (Operand.const (Value.bool false)), 4, none⟩]) (by kernel_rfl) (by kernel_rfl) ?_
    refine TL_q rfl (QV_assign rfl) ?_
    refine TL_nil ?_
    refine W_ret (by kernel_rfl) ?_
    first | exact ⟨_, rfl, rfl, false, rfl, fun h => by cases h⟩ | exact ⟨_, rfl, rfl, true, rfl, fun _ => by omega⟩
  ·
    have h9 := of_decide_eq_false hc9
    refine W_skip (by kernel_rfl) ?_
    refine W_seq (by kernel_rfl) ?_
    -- R4
    refine W_reg (l := [⟨some 10, Op.move (Operand.tmp 5), 3, none⟩, ⟨some 11, Op.move (Operand.tmp 1), 22, none⟩, ⟨some 12, Op.call { callee := Callee.builtin Builtin.len, args := #[Operand.tmp 11], argTypes := #[22] }, 3, none⟩, ⟨some 13, Op.binOp BinOp.add 3 (Operand.tmp 10) (Operand.tmp 12) 3, 3, none⟩, ⟨some 5, Op.assign (Operand.tmp 13), 3, none⟩]) (by kernel_rfl) (by kernel_rfl) ?_
    refine TL_q rfl (QV_move rfl) ?_
    refine TL_q rfl (QV_move rfl) ?_
    refine TL_q rfl (QV_len rfl el22) ?_
    refine TL_q rfl (QV_add (r := ((rs.length : Nat) : Int)) rfl rfl (by omega) (by omega) (by omega)) ?_
    refine TL_q rfl (QV_assign rfl) ?_
    refine TL_nil ?_
    refine W_seq (by kernel_rfl) ?_
    refine W_seq (by kernel_rfl) ?_
    -- R5
    refine W_reg (l := [⟨some 14, Op.move (Operand.tmp 5), 3, none⟩, ⟨some 15, Op.binOp BinOp.gtr 3 (Operand.tmp 14) (Operand.const (Value.int IntKind.i64 1048576)) 3, 4, none⟩]) (by kernel_rfl) (by kernel_rfl) ?_
    refine TL_q rfl (QV_move rfl) ?_
    refine TL_q rfl (QV_gtr rfl rfl) ?_
    refine TL_nil ?_
    refine W_cond (c := Operand.tmp 15) (by kernel_rfl) rfl (fun hc15 => ?_) (fun hc15 => ?_)
    ·
      refine W_seq (by kernel_rfl) ?_
      -- R6
      refine W_reg (l := [⟨some 4, Op.assign (Operand.const (Value.bool false)), 4, none⟩]) (by kernel_rfl) (by kernel_rfl) ?_
      refine TL_q rfl (QV_assign rfl) ?_
      refine TL_nil ?_
      refine W_ret (by kernel_rfl) ?_
      first | exact ⟨_, rfl, rfl, false, rfl, fun h => by cases h⟩ | exact ⟨_, rfl, rfl, true, rfl, fun _ => by omega⟩
    ·
      have h15 := of_decide_eq_false hc15
      refine W_skip (by kernel_rfl) ?_
      refine W_seq (by kernel_rfl) ?_
      refine W_seq (by kernel_rfl) ?_
      -- R7
      refine W_reg (l := [⟨some 6, Op.assign (Operand.const (Value.int IntKind.i64 0)), 3, none⟩]) (by kernel_rfl) (by kernel_rfl) ?_
      refine TL_q rfl (QV_assign rfl) ?_
      refine TL_nil ?_
      refine W_block 0 (by kernel_rfl) ?_
      refine W_loop (fun (k : Nat) w1 => k ≤ rs.length ∧ rs.length + tot (rs.take k) ≤ 1048576 ∧ w1 = w) (fun k => [(1, .slice a rs.length c), (5, .int .i64 ((rs.length + tot (rs.take k) : Nat) : Int)), (6, .int .i64 (k : Int))]) (fun k => rs.length - k) 0 (by kernel_rfl) ?_ ?_ ?_
      · exact ⟨Nat.zero_le _, by simp [tot]; omega, rfl⟩
      · exact ⟨rfl, sint (by simp [tot]), rfl, trivial⟩
      rintro k w1 ⟨hk, hacc, rfl⟩
      refine W_seq (by kernel_rfl) ?_
      refine W_seq (by kernel_rfl) ?_
      -- R8
      refine W_reg (l := [⟨some 16, Op.move (Operand.tmp 6), 3, none⟩, ⟨some 17, Op.move (Operand.tmp 1), 22, none⟩, ⟨some 18, Op.call { callee := Callee.builtin Builtin.len, args := #[Operand.tmp 17], argTypes := #[22] }, 3, none⟩, ⟨some 19, Op.binOp BinOp.lss 3 (Operand.tmp 16) (Operand.tmp 18) 3, 4, none⟩]) (by kernel_rfl) (by kernel_rfl) ?_
      refine TL_q rfl (QV_move rfl) ?_
      refine TL_q rfl (QV_move rfl) ?_
      refine TL_q rfl (QV_len rfl el22) ?_
      refine TL_q rfl (QV_lss rfl rfl) ?_
      refine TL_nil ?_
      refine W_cond (c := Operand.tmp 19) (by kernel_rfl) rfl (fun hc19 => ?_) (fun hc19 => ?_)
      ·
        have hlt : k < rs.length := by have := of_decide_eq_true hc19; omega
        obtain ⟨b, o, rfl, hbB, hcel⟩ := hp (by omega)
        obtain ⟨g1, va, vu, g2, g3, ⟨aa, ca, rfl, -⟩, ⟨au, cu, rfl, -⟩⟩ := hcel k hlt
        have hts := tot_take_succ rs k hlt
        refine W_skip (by kernel_rfl) ?_
        refine W_seq (by kernel_rfl) ?_
        refine W_block 1 (by kernel_rfl) ?_
        refine W_seq (by kernel_rfl) ?_
        refine W_seq (by kernel_rfl) ?_
        -- R10
        refine W_reg (l := [⟨some 22, Op.move (Operand.tmp 1), 22, none⟩, ⟨some 23, Op.move (Operand.tmp 6), 3, none⟩, ⟨some 24, Op.indexAddr 22 (Operand.tmp 22) (Operand.tmp 23), 0, none⟩, ⟨some 25, Op.fieldAddr 33 (Operand.tmp 24) 1, 0, none⟩, ⟨some 26, Op.load 27 (Operand.tmp 25), 27, none⟩, ⟨some 27, Op.call { callee := Callee.builtin Builtin.len, args := #[Operand.tmp 26], argTypes := #[27] }, 3, none⟩, ⟨some 28, Op.binOp BinOp.gtr 3 (Operand.tmp 27) (Operand.const (Value.int IntKind.i64 1048576)) 3, 4, none⟩]) (by kernel_rfl) (by kernel_rfl) ?_
        refine TL_q rfl (QV_move rfl) ?_
        refine TL_q rfl (QV_move rfl) ?_
        refine TL_q rfl (QV_idx rfl rfl el22 sz33 (hlt)) ?_
        refine TL_q rfl (QV_field rfl fld33_1) ?_
        refine TL_q rfl (QV_load rfl one27 (g2)) ?_
        refine TL_q rfl (QV_len rfl el27) ?_
        refine TL_q rfl (QV_gtr rfl rfl) ?_
        refine TL_nil ?_
        refine W_cond (c := Operand.tmp 28) (by kernel_rfl) rfl (fun hc28 => ?_) (fun hc28 => ?_)
        ·
          refine W_seq (by kernel_rfl) ?_
          -- R11
          refine W_reg (l := [⟨some 4, Op.assign (Operand.const (Value.bool false)), 4, none⟩]) (by kernel_rfl) (by kernel_rfl) ?_
          refine TL_q rfl (QV_assign rfl) ?_
          refine TL_nil ?_
          refine W_ret (by kernel_rfl) ?_
          first | exact ⟨_, rfl, rfl, false, rfl, fun h => by cases h⟩ | exact ⟨_, rfl, rfl, true, rfl, fun _ => by omega⟩
        ·
          have h28 := of_decide_eq_false hc28
          refine W_skip (by kernel_rfl) ?_
          refine W_seq (by kernel_rfl) ?_
          -- R12
          refine W_reg (l := [⟨some 29, Op.move (Operand.tmp 5), 3, none⟩, ⟨some 30, Op.move (Operand.tmp 1), 22, none⟩, ⟨some 31, Op.move (Operand.tmp 6), 3, none⟩, ⟨some 32, Op.indexAddr 22 (Operand.tmp 30) (Operand.tmp 31), 0, none⟩, ⟨some 33, Op.fieldAddr 33 (Operand.tmp 32) 1, 0, none⟩, ⟨some 34, Op.load 27 (Operand.tmp 33), 27, none⟩, ⟨some 35, Op.call { callee := Callee.builtin Builtin.len, args := #[Operand.tmp 34], argTypes := #[27] }, 3, none⟩, ⟨some 36, Op.binOp BinOp.add 3 (Operand.tmp 29) (Operand.tmp 35) 3, 3, none⟩, ⟨some 5, Op.assign (Operand.tmp 36), 3, none⟩]) (by kernel_rfl) (by kernel_rfl) ?_
          refine TL_q rfl (QV_move rfl) ?_
          refine TL_q rfl (QV_move rfl) ?_
          refine TL_q rfl (QV_move rfl) ?_
          refine TL_q rfl (QV_idx rfl rfl el22 sz33 (hlt)) ?_
          refine TL_q rfl (QV_field rfl fld33_1) ?_
          refine TL_q rfl (QV_load rfl one27 (g2)) ?_
          refine TL_q rfl (QV_len rfl el27) ?_
          refine TL_q rfl (QV_add (r := ((rs.length + tot (rs.take k) + (rs.getD k rd0).all.length : Nat) : Int)) rfl rfl (by omega) (by omega) (by omega)) ?_
          refine TL_q rfl (QV_assign rfl) ?_
          refine TL_nil ?_
          refine W_seq (by kernel_rfl) ?_
          refine W_seq (by kernel_rfl) ?_
          -- R13
          refine W_reg (l := [⟨some 37, Op.move (Operand.tmp 5), 3, none⟩, ⟨some 38, Op.binOp BinOp.gtr 3 (Operand.tmp 37) (Operand.const (Value.int IntKind.i64 1048576)) 3, 4, none⟩]) (by kernel_rfl) (by kernel_rfl) ?_
          refine TL_q rfl (QV_move rfl) ?_
          refine TL_q rfl (QV_gtr rfl rfl) ?_
          refine TL_nil ?_
          refine W_cond (c := Operand.tmp 38) (by kernel_rfl) rfl (fun hc38 => ?_) (fun hc38 => ?_)
          ·
            refine W_seq (by kernel_rfl) ?_
            -- R14
            refine W_reg (l := [⟨some 4, Op.assign (Operand.const (Value.bool false)), 4, none⟩]) (by kernel_rfl) (by kernel_rfl) ?_
            refine TL_q rfl (QV_assign rfl) ?_
            refine TL_nil ?_
            refine W_ret (by kernel_rfl) ?_
            first | exact ⟨_, rfl, rfl, false, rfl, fun h => by cases h⟩ | exact ⟨_, rfl, rfl, true, rfl, fun _ => by omega⟩
          ·
            have h38 := of_decide_eq_false hc38
            refine W_skip (by kernel_rfl) ?_
            refine W_seq (by kernel_rfl) ?_
            refine W_seq (by kernel_rfl) ?_
            -- R15
            refine W_reg (l := [⟨some 39, Op.move (Operand.tmp 1), 22, none⟩, ⟨some 40, Op.move (Operand.tmp 6), 3, none⟩, ⟨some 41, Op.indexAddr 22 (Operand.tmp 39) (Operand.tmp 40), 0, none⟩, ⟨some 42, Op.fieldAddr 33 (Operand.tmp 41) 2, 0, none⟩, ⟨some 43, Op.load 27 (Operand.tmp 42), 27, none⟩, ⟨some 44, Op.call { callee := Callee.builtin Builtin.len, args := #[Operand.tmp 43], argTypes := #[27] }, 3, none⟩, ⟨some 45, Op.binOp BinOp.gtr 3 (Operand.tmp 44) (Operand.const (Value.int IntKind.i64 1048576)) 3, 4, none⟩]) (by kernel_rfl) (by kernel_rfl) ?_
            refine TL_q rfl (QV_move rfl) ?_
            refine TL_q rfl (QV_move rfl) ?_
            refine TL_q rfl (QV_idx rfl rfl el22 sz33 (hlt)) ?_
            refine TL_q rfl (QV_field rfl fld33_2) ?_
            refine TL_q rfl (QV_load rfl one27 (g3)) ?_
            refine TL_q rfl (QV_len rfl el27) ?_
            refine TL_q rfl (QV_gtr rfl rfl) ?_
            refine TL_nil ?_
            refine W_cond (c := Operand.tmp 45) (by kernel_rfl) rfl (fun hc45 => ?_) (fun hc45 => ?_)
            ·
              refine W_seq (by kernel_rfl) ?_
              -- R16
              refine W_reg (l := [⟨some 4, Op.assign (Operand.const (Value.bool false)), 4, none⟩]) (by kernel_rfl) (by kernel_rfl) ?_
              refine TL_q rfl (QV_assign rfl) ?_
              refine TL_nil ?_
              refine W_ret (by kernel_rfl) ?_
              first | exact ⟨_, rfl, rfl, false, rfl, fun h => by cases h⟩ | exact ⟨_, rfl, rfl, true, rfl, fun _ => by omega⟩
            ·
              have h45 := of_decide_eq_false hc45
              refine W_skip (by kernel_rfl) ?_
              refine W_seq (by kernel_rfl) ?_
              -- R17
              refine W_reg (l := [⟨some 46, Op.move (Operand.tmp 5), 3, none⟩, ⟨some 47, Op.move (Operand.tmp 1), 22, none⟩, ⟨some 48, Op.move (Operand.tmp 6), 3, none⟩, ⟨some 49, Op.indexAddr 22 (Operand.tmp 47) (Operand.tmp 48), 0, none⟩, ⟨some 50, Op.fieldAddr 33 (Operand.tmp 49) 2, 0, none⟩, ⟨some 51, Op.load 27 (Operand.tmp 50), 27, none⟩, ⟨some 52, Op.call { callee := Callee.builtin Builtin.len, args := #[Operand.tmp 51], argTypes := #[27] }, 3, none⟩, ⟨some 53, Op.binOp BinOp.add 3 (Operand.tmp 46) (Operand.tmp 52) 3, 3, none⟩, ⟨some 5, Op.assign (Operand.tmp 53), 3, none⟩]) (by kernel_rfl) (by kernel_rfl) ?_
              refine TL_q rfl (QV_move rfl) ?_
              refine TL_q rfl (QV_move rfl) ?_
              refine TL_q rfl (QV_move rfl) ?_
              refine TL_q rfl (QV_idx rfl rfl el22 sz33 (hlt)) ?_
              refine TL_q rfl (QV_field rfl fld33_2) ?_
              refine TL_q rfl (QV_load rfl one27 (g3)) ?_
              refine TL_q rfl (QV_len rfl el27) ?_
              refine TL_q rfl (QV_add (r := ((rs.length + tot (rs.take k) + (rs.getD k rd0).all.length + (rs.getD k rd0).unl.length : Nat) : Int)) rfl rfl (by omega) (by omega) (by omega)) ?_
              refine TL_q rfl (QV_assign rfl) ?_
              refine TL_nil ?_
              refine W_seq (by kernel_rfl) ?_
              -- R18
              refine W_reg (l := [⟨some 54, Op.move (Operand.tmp 5), 3, none⟩, ⟨some 55, Op.binOp BinOp.gtr 3 (Operand.tmp 54) (Operand.const (Value.int IntKind.i64 1048576)) 3, 4, none⟩]) (by kernel_rfl) (by kernel_rfl) ?_
              refine TL_q rfl (QV_move rfl) ?_
              refine TL_q rfl (QV_gtr rfl rfl) ?_
              refine TL_nil ?_
              refine W_cond (c := Operand.tmp 55) (by kernel_rfl) rfl (fun hc55 => ?_) (fun hc55 => ?_)
              ·
                refine W_seq (by kernel_rfl) ?_
                -- R19
                refine W_reg (l := [⟨some 4, Op.assign (Operand.const (Value.bool false)), 4, none⟩]) (by kernel_rfl) (by kernel_rfl) ?_
                refine TL_q rfl (QV_assign rfl) ?_
                refine TL_nil ?_
                refine W_ret (by kernel_rfl) ?_
                first | exact ⟨_, rfl, rfl, false, rfl, fun h => by cases h⟩ | exact ⟨_, rfl, rfl, true, rfl, fun _ => by omega⟩
              ·
                have h55 := of_decide_eq_false hc55
                refine W_skip (by kernel_rfl) ?_
                -- R9
                refine W_reg (l := [⟨some 20, Op.move (Operand.tmp 6), 3, none⟩, ⟨some 21, Op.binOp BinOp.add 3 (Operand.tmp 20) (Operand.const (Value.int IntKind.i64 1)) 3, 3, none⟩, ⟨some 6, Op.assign (Operand.tmp 21), 3, none⟩]) (by kernel_rfl) (by kernel_rfl) ?_
                refine TL_q rfl (QV_move rfl) ?_
                refine TL_q rfl (QV_add (r := ((k + 1 : Nat) : Int)) rfl rfl (by omega) (by omega) (by omega)) ?_
                refine TL_q rfl (QV_assign rfl) ?_
                refine TL_nil ?_
                exact ⟨k + 1, ⟨by omega, by omega, rfl⟩, ⟨rfl, sint (by rw [hts]; omega), rfl, trivial⟩, by omega⟩
      ·
        have hge : k = rs.length := by have := of_decide_eq_false hc19; omega
        subst hge
        rw [List.take_length] at hacc
        refine W_exit 0 (by kernel_rfl) ?_
        show T Try.prog 56 (C Try.f22 [1, 1, 1, 1, 1, 1]) _ _ _
        refine W_seq (by kernel_rfl) ?_
        -- R20
        refine W_reg (l := [⟨some 4, Op.assign (Operand.const (Value.bool true)), 4, none⟩]) (by kernel_rfl) (by kernel_rfl) ?_
        refine TL_q rfl (QV_assign rfl) ?_
        refine TL_nil ?_
        refine W_ret (by kernel_rfl) ?_
        first | exact ⟨_, rfl, rfl, false, rfl, fun h => by cases h⟩ | exact ⟨_, rfl, rfl, true, rfl, fun _ => by omega⟩

set_option maxRecDepth 10000 in
theorem bytes27 (w : World) (B : Nat → Prop) (n : Int) (v : Value) (rs : List RD) (hv : RulesAt w.heap B v rs) :
    CallsS Try.prog 27 #[.int .i64 n, v] w (fun r w' => w' = w ∧ ∃ b, r = .bool b ∧ (b = true → rs.length + tot rs ≤ 1048576)) := by
  obtain ⟨a, c, rfl, hc, hn, hp⟩ := hv
  refine W_fun [4] Try.func27 rfl Try.ntmps27 Try.results27 (Nat.le_of_ble_eq_true rfl) ?_
  refine W_seq (by kernel_rfl) ?_
  -- R0
  refine W_reg (l := [⟨some 4, Op.assign (Operand.const (Value.bool false)), 4, none⟩]) (by kernel_rfl) (by kernel_rfl) ?_
  refine TL_q rfl (QV_assign rfl) ?_
  refine TL_nil ?_
  refine W_seq (by kernel_rfl) ?_
  -- R1
  refine W_reg (l := [⟨some 5, Op.assign (Operand.const (Value.int IntKind.i64 0)), 3, none⟩]) (by kernel_rfl) (by kernel_rfl) ?_
  refine TL_q rfl (QV_assign rfl) ?_
  refine TL_nil ?_
  refine W_seq (by kernel_rfl) ?_
  refine W_seq (by kernel_rfl) ?_
  -- R2
  refine W_reg (l := [⟨some 7, Op.move (Operand.tmp 1), 22, none⟩, ⟨some 8, Op.call { callee := Callee.builtin Builtin.len, args := #[Operand.tmp 7], argTypes := #[22] }, 3, none⟩, ⟨some 9, Op.binOp BinOp.gtr 3 (Operand.tmp 8) (Operand.const (Value.int IntKind.i64 1048576)) 3, 4, none⟩]) (by kernel_rfl) (by kernel_rfl) ?_
  refine TL_q rfl (QV_move rfl) ?_
  refine TL_q rfl (QV_len rfl el22) ?_
  refine TL_q rfl (QV_gtr rfl rfl) ?_
  refine TL_nil ?_
  refine W_cond (c := Operand.tmp 9) (by kernel_rfl) rfl (fun hc9 => ?_) (fun hc9 => ?_)
  ·
    refine W_seq (by kernel_rfl) ?_
    -- R3
    refine W_reg (l := [⟨some 4, Op.assign (Operand.const (Value.bool false)), 4, none⟩]) (by kernel_rfl) (by kernel_rfl) ?_
    refine TL_q rfl (QV_assign rfl) ?_
    refine TL_nil ?_
    refine W_ret (by kernel_rfl) ?_
    first | exact ⟨_, rfl, rfl, false, rfl, fun h => by cases h⟩ | exact ⟨_, rfl, rfl, true, rfl, fun _ => by omega⟩
  ·
    have h9 := of_decide_eq_false hc9
    refine W_skip (by kernel_rfl) ?_
    refine W_seq (by kernel_rfl) ?_
    -- R4
    refine W_reg (l := [⟨some 10, Op.move (Operand.tmp 5), 3, none⟩, ⟨some 11, Op.move (Operand.tmp 1), 22, none⟩, ⟨some 12, Op.call { callee := Callee.builtin Builtin.len, args := #[Operand.tmp 11], argTypes := #[22] }, 3, none⟩, ⟨some 13, Op.binOp BinOp.add 3 (Operand.tmp 10) (Operand.tmp 12) 3, 3, none⟩, ⟨some 5, Op.assign (Operand.tmp 13), 3, none⟩]) (by kernel_rfl) (by kernel_rfl) ?_
    refine TL_q rfl (QV_move rfl) ?_
    refine TL_q rfl (QV_move rfl) ?_
    refine TL_q rfl (QV_len rfl el22) ?_
    refine TL_q rfl (QV_add (r := ((rs.length : Nat) : Int)) rfl rfl (by omega) (by omega) (by omega)) ?_
    refine TL_q rfl (QV_assign rfl) ?_
    refine TL_nil ?_
    refine W_seq (by kernel_rfl) ?_
    refine W_seq (by kernel_rfl) ?_
    -- R5
    refine W_reg (l := [⟨some 14, Op.move (Operand.tmp 5), 3, none⟩, ⟨some 15, Op.binOp BinOp.gtr 3 (Operand.tmp 14) (Operand.const (Value.int IntKind.i64 1048576)) 3, 4, none⟩]) (by kernel_rfl) (by kernel_rfl) ?_
    refine TL_q rfl (QV_move rfl) ?_
    refine TL_q rfl (QV_gtr rfl rfl) ?_
    refine TL_nil ?_
    refine W_cond (c := Operand.tmp 15) (by kernel_rfl) rfl (fun hc15 => ?_) (fun hc15 => ?_)
    ·
      refine W_seq (by kernel_rfl) ?_
      -- R6
      refine W_reg (l := [⟨some 4, Op.assign (Operand.const (Value.bool false)), 4, none⟩]) (by kernel_rfl) (by kernel_rfl) ?_
      refine TL_q rfl (QV_assign rfl) ?_
      refine TL_nil ?_
      refine W_ret (by kernel_rfl) ?_
      first | exact ⟨_, rfl, rfl, false, rfl, fun h => by cases h⟩ | exact ⟨_, rfl, rfl, true, rfl, fun _ => by omega⟩
    ·
      have h15 := of_decide_eq_false hc15
      refine W_skip (by kernel_rfl) ?_
      refine W_seq (by kernel_rfl) ?_
      refine W_seq (by kernel_rfl) ?_
      -- R7
      refine W_reg (l := [⟨some 6, Op.assign (Operand.const (Value.int IntKind.i64 0)), 3, none⟩]) (by kernel_rfl) (by kernel_rfl) ?_
      refine TL_q rfl (QV_assign rfl) ?_
      refine TL_nil ?_
      refine W_block 0 (by kernel_rfl) ?_
      refine W_loop (fun (k : Nat) w1 => k ≤ rs.length ∧ rs.length + tot (rs.take k) ≤ 1048576 ∧ w1 = w) (fun k => [(1, .slice a rs.length c), (5, .int .i64 ((rs.length + tot (rs.take k) : Nat) : Int)), (6, .int .i64 (k : Int))]) (fun k => rs.length - k) 0 (by kernel_rfl) ?_ ?_ ?_
      · exact ⟨Nat.zero_le _, by simp [tot]; omega, rfl⟩
      · exact ⟨rfl, sint (by simp [tot]), rfl, trivial⟩
      rintro k w1 ⟨hk, hacc, rfl⟩
      refine W_seq (by kernel_rfl) ?_
      refine W_seq (by kernel_rfl) ?_
      -- R8
      refine W_reg (l := [⟨some 16, Op.move (Operand.tmp 6), 3, none⟩, ⟨some 17, Op.move (Operand.tmp 1), 22, none⟩, ⟨some 18, Op.call { callee := Callee.builtin Builtin.len, args := #[Operand.tmp 17], argTypes := #[22] }, 3, none⟩, ⟨some 19, Op.binOp BinOp.lss 3 (Operand.tmp 16) (Operand.tmp 18) 3, 4, none⟩]) (by kernel_rfl) (by kernel_rfl) ?_
      refine TL_q rfl (QV_move rfl) ?_
      refine TL_q rfl (QV_move rfl) ?_
      refine TL_q rfl (QV_len rfl el22) ?_
      refine TL_q rfl (QV_lss rfl rfl) ?_
      refine TL_nil ?_
      refine W_cond (c := Operand.tmp 19) (by kernel_rfl) rfl (fun hc19 => ?_) (fun hc19 => ?_)
      ·
        have hlt : k < rs.length := by have := of_decide_eq_true hc19; omega
        obtain ⟨b, o, rfl, hbB, hcel⟩ := hp (by omega)
        obtain ⟨g1, va, vu, g2, g3, ⟨aa, ca, rfl, -⟩, ⟨au, cu, rfl, -⟩⟩ := hcel k hlt
        have hts := tot_take_succ rs k hlt
        refine W_skip (by kernel_rfl) ?_
        refine W_seq (by kernel_rfl) ?_
        refine W_block 1 (by kernel_rfl) ?_
        refine W_seq (by kernel_rfl) ?_
        refine W_seq (by kernel_rfl) ?_
        -- R10
        refine W_reg (l := [⟨some 22, Op.move (Operand.tmp 1), 22, none⟩, ⟨some 23, Op.move (Operand.tmp 6), 3, none⟩, ⟨some 24, Op.indexAddr 22 (Operand.tmp 22) (Operand.tmp 23), 0, none⟩, ⟨some 25, Op.fieldAddr 33 (Operand.tmp 24) 1, 0, none⟩, ⟨some 26, Op.load 27 (Operand.tmp 25), 27, none⟩, ⟨some 27, Op.call { callee := Callee.builtin Builtin.len, args := #[Operand.tmp 26], argTypes := #[27] }, 3, none⟩, ⟨some 28, Op.binOp BinOp.gtr 3 (Operand.tmp 27) (Operand.const (Value.int IntKind.i64 1048576)) 3, 4, none⟩]) (by kernel_rfl) (by kernel_rfl) ?_
        refine TL_q rfl (QV_move rfl) ?_
        refine TL_q rfl (QV_move rfl) ?_
        refine TL_q rfl (QV_idx rfl rfl el22 sz33 (hlt)) ?_
        refine TL_q rfl (QV_field rfl fld33_1) ?_
        refine TL_q rfl (QV_load rfl one27 (g2)) ?_
        refine TL_q rfl (QV_len rfl el27) ?_
        refine TL_q rfl (QV_gtr rfl rfl) ?_
        refine TL_nil ?_
        refine W_cond (c := Operand.tmp 28) (by kernel_rfl) rfl (fun hc28 => ?_) (fun hc28 => ?_)
        ·
          refine W_seq (by kernel_rfl) ?_
          -- R11
          refine W_reg (l := [⟨some 4, Op.assign (Operand.const (Value.bool false)), 4, none⟩]) (by kernel_rfl) (by kernel_rfl) ?_
          refine TL_q rfl (QV_assign rfl) ?_
          refine TL_nil ?_
          refine W_ret (by kernel_rfl) ?_
          first | exact ⟨_, rfl, rfl, false, rfl, fun h => by cases h⟩ | exact ⟨_, rfl, rfl, true, rfl, fun _ => by omega⟩
        ·
          have h28 := of_decide_eq_false hc28
          refine W_skip (by kernel_rfl) ?_
          refine W_seq (by kernel_rfl) ?_
          -- R12
          refine W_reg (l := [⟨some 29, Op.move (Operand.tmp 5), 3, none⟩, ⟨some 30, Op.move (Operand.tmp 1), 22, none⟩, ⟨some 31, Op.move (Operand.tmp 6), 3, none⟩, ⟨some 32, Op.indexAddr 22 (Operand.tmp 30) (Operand.tmp 31), 0, none⟩, ⟨some 33, Op.fieldAddr 33 (Operand.tmp 32) 1, 0, none⟩, ⟨some 34, Op.load 27 (Operand.tmp 33), 27, none⟩, ⟨some 35, Op.call { callee := Callee.builtin Builtin.len, args := #[Operand.tmp 34], argTypes := #[27] }, 3, none⟩, ⟨some 36, Op.binOp BinOp.add 3 (Operand.tmp 29) (Operand.tmp 35) 3, 3, none⟩, ⟨some 5, Op.assign (Operand.tmp 36), 3, none⟩]) (by kernel_rfl) (by kernel_rfl) ?_
          refine TL_q rfl (QV_move rfl) ?_
          refine TL_q rfl (QV_move rfl) ?_
          refine TL_q rfl (QV_move rfl) ?_
          refine TL_q rfl (QV_idx rfl rfl el22 sz33 (hlt)) ?_
          refine TL_q rfl (QV_field rfl fld33_1) ?_
          refine TL_q rfl (QV_load rfl one27 (g2)) ?_
          refine TL_q rfl (QV_len rfl el27) ?_
          refine TL_q rfl (QV_add (r := ((rs.length + tot (rs.take k) + (rs.getD k rd0).all.length : Nat) : Int)) rfl rfl (by omega) (by omega) (by omega)) ?_
          refine TL_q rfl (QV_assign rfl) ?_
          refine TL_nil ?_
          refine W_seq (by kernel_rfl) ?_
          refine W_seq (by kernel_rfl) ?_
          -- R13
          refine W_reg (l := [⟨some 37, Op.move (Operand.tmp 5), 3, none⟩, ⟨some 38, Op.binOp BinOp.gtr 3 (Operand.tmp 37) (Operand.const (Value.int IntKind.i64 1048576)) 3, 4, none⟩]) (by kernel_rfl) (by kernel_rfl) ?_
          refine TL_q rfl (QV_move rfl) ?_
          refine TL_q rfl (QV_gtr rfl rfl) ?_
          refine TL_nil ?_
          refine W_cond (c := Operand.tmp 38) (by kernel_rfl) rfl (fun hc38 => ?_) (fun hc38 => ?_)
          ·
            refine W_seq (by kernel_rfl) ?_
            -- R14
            refine W_reg (l := [⟨some 4, Op.assign (Operand.const (Value.bool false)), 4, none⟩]) (by kernel_rfl) (by kernel_rfl) ?_
            refine TL_q rfl (QV_assign rfl) ?_
            refine TL_nil ?_
            refine W_ret (by kernel_rfl) ?_
            first | exact ⟨_, rfl, rfl, false, rfl, fun h => by cases h⟩ | exact ⟨_, rfl, rfl, true, rfl, fun _ => by omega⟩
          ·
            have h38 := of_decide_eq_false hc38
            refine W_skip (by kernel_rfl) ?_
            refine W_seq (by kernel_rfl) ?_
            refine W_seq (by kernel_rfl) ?_
            -- R15
            refine W_reg (l := [⟨some 39, Op.move (Operand.tmp 1), 22, none⟩, ⟨some 40, Op.move (Operand.tmp 6), 3, none⟩, ⟨some 41, Op.indexAddr 22 (Operand.tmp 39) (Operand.tmp 40), 0, none⟩, ⟨some 42, Op.fieldAddr 33 (Operand.tmp 41) 2, 0, none⟩, ⟨some 43, Op.load 27 (Operand.tmp 42), 27, none⟩, ⟨some 44, Op.call { callee := Callee.builtin Builtin.len, args := #[Operand.tmp 43], argTypes := #[27] }, 3, none⟩, ⟨some 45, Op.binOp BinOp.gtr 3 (Operand.tmp 44) (Operand.const (Value.int IntKind.i64 1048576)) 3, 4, none⟩]) (by kernel_rfl) (by kernel_rfl) ?_
            refine TL_q rfl (QV_move rfl) ?_
            refine TL_q rfl (QV_move rfl) ?_
            refine TL_q rfl (QV_idx rfl rfl el22 sz33 (hlt)) ?_
            refine TL_q rfl (QV_field rfl fld33_2) ?_
            refine TL_q rfl (QV_load rfl one27 (g3)) ?_
            refine TL_q rfl (QV_len rfl el27) ?_
            refine TL_q rfl (QV_gtr rfl rfl) ?_
            refine TL_nil ?_
            refine W_cond (c := Operand.tmp 45) (by kernel_rfl) rfl (fun hc45 => ?_) (fun hc45 => ?_)
            ·
              refine W_seq (by kernel_rfl) ?_
              -- R16
              refine W_reg (l := [⟨some 4, Op.assign (Operand.const (Value.bool false)), 4, none⟩]) (by kernel_rfl) (by kernel_rfl) ?_
              refine TL_q rfl (QV_assign rfl) ?_
              refine TL_nil ?_
              refine W_ret (by kernel_rfl) ?_
              first | exact ⟨_, rfl, rfl, false, rfl, fun h => by cases h⟩ | exact ⟨_, rfl, rfl, true, rfl, fun _ => by omega⟩
            ·
              have h45 := of_decide_eq_false hc45
              refine W_skip (by kernel_rfl) ?_
              refine W_seq (by kernel_rfl) ?_
              -- R17
              refine W_reg (l := [⟨some 46, Op.move (Operand.tmp 5), 3, none⟩, ⟨some 47, Op.move (Operand.tmp 1), 22, none⟩, ⟨some 48, Op.move (Operand.tmp 6), 3, none⟩, ⟨some 49, Op.indexAddr 22 (Operand.tmp 47) (Operand.tmp 48), 0, none⟩, ⟨some 50, Op.fieldAddr 33 (Operand.tmp 49) 2, 0, none⟩, ⟨some 51, Op.load 27 (Operand.tmp 50), 27, none⟩, ⟨some 52, Op.call { callee := Callee.builtin Builtin.len, args := #[Operand.tmp 51], argTypes := #[27] }, 3, none⟩, ⟨some 53, Op.binOp BinOp.add 3 (Operand.tmp 46) (Operand.tmp 52) 3, 3, none⟩, ⟨some 5, Op.assign (Operand.tmp 53), 3, none⟩]) (by kernel_rfl) (by kernel_rfl) ?_
              refine TL_q rfl (QV_move rfl) ?_
              refine TL_q rfl (QV_move rfl) ?_
              refine TL_q rfl (QV_move rfl) ?_
              refine TL_q rfl (QV_idx rfl rfl el22 sz33 (hlt)) ?_
              refine TL_q rfl (QV_field rfl fld33_2) ?_
              refine TL_q rfl (QV_load rfl one27 (g3)) ?_
              refine TL_q rfl (QV_len rfl el27) ?_
              refine TL_q rfl (QV_add (r := ((rs.length + tot (rs.take k) + (rs.getD k rd0).all.length + (rs.getD k rd0).unl.length : Nat) : Int)) rfl rfl (by omega) (by omega) (by omega)) ?_
              refine TL_q rfl (QV_assign rfl) ?_
              refine TL_nil ?_
              refine W_seq (by kernel_rfl) ?_
              -- R18
              refine W_reg (l := [⟨some 54, Op.move (Operand.tmp 5), 3, none⟩, ⟨some 55, Op.binOp BinOp.gtr 3 (Operand.tmp 54) (Operand.const (Value.int IntKind.i64 1048576)) 3, 4, none⟩]) (by kernel_rfl) (by kernel_rfl) ?_
              refine TL_q rfl (QV_move rfl) ?_
              refine TL_q rfl (QV_gtr rfl rfl) ?_
              refine TL_nil ?_
              refine W_cond (c := Operand.tmp 55) (by kernel_rfl) rfl (fun hc55 => ?_) (fun hc55 => ?_)
              ·
                refine W_seq (by kernel_rfl) ?_
                -- R19
                refine W_reg (l := [⟨some 4, Op.assign (Operand.const (Value.bool false)), 4, none⟩]) (by kernel_rfl) (by kernel_rfl) ?_
                refine TL_q rfl (QV_assign rfl) ?_
                refine TL_nil ?_
                refine W_ret (by kernel_rfl) ?_
                first | exact ⟨_, rfl, rfl, false, rfl, fun h => by cases h⟩ | exact ⟨_, rfl, rfl, true, rfl, fun _ => by omega⟩
              ·
                have h55 := of_decide_eq_false hc55
                refine W_skip (by kernel_rfl) ?_
                -- R9
                refine W_reg (l := [⟨some 20, Op.move (Operand.tmp 6), 3, none⟩, ⟨some 21, Op.binOp BinOp.add 3 (Operand.tmp 20) (Operand.const (Value.int IntKind.i64 1)) 3, 3, none⟩, ⟨some 6, Op.assign (Operand.tmp 21), 3, none⟩]) (by kernel_rfl) (by kernel_rfl) ?_
                refine TL_q rfl (QV_move rfl) ?_
                refine TL_q rfl (QV_add (r := ((k + 1 : Nat) : Int)) rfl rfl (by omega) (by omega) (by omega)) ?_
                refine TL_q rfl (QV_assign rfl) ?_
                refine TL_nil ?_
                exact ⟨k + 1, ⟨by omega, by omega, rfl⟩, ⟨rfl, sint (by rw [hts]; omega), rfl, trivial⟩, by omega⟩
      ·
        have hge : k = rs.length := by have := of_decide_eq_false hc19; omega
        subst hge
        rw [List.take_length] at hacc
        refine W_exit 0 (by kernel_rfl) ?_
        show T Try.prog 56 (C Try.f27 [1, 1, 1, 1, 1, 1]) _ _ _
        refine W_seq (by kernel_rfl) ?_
        -- R20
        refine W_reg (l := [⟨some 4, Op.assign (Operand.const (Value.bool true)), 4, none⟩]) (by kernel_rfl) (by kernel_rfl) ?_
        refine TL_q rfl (QV_assign rfl) ?_
        refine TL_nil ?_
        refine W_ret (by kernel_rfl) ?_
        first | exact ⟨_, rfl, rfl, false, rfl, fun h => by cases h⟩ | exact ⟨_, rfl, rfl, true, rfl, fun _ => by omega⟩

set_option maxRecDepth 10000 in
theorem bytes29 (w : World) (B : Nat → Prop) (n : Int) (v : Value) (rs : List RD) (hv : RulesAt w.heap B v rs) :
    CallsS Try.prog 29 #[.int .i64 n, v] w (fun r w' => w' = w ∧ ∃ b, r = .bool b ∧ (b = true → rs.length + tot rs ≤ 1048576)) := by
  obtain ⟨a, c, rfl, hc, hn, hp⟩ := hv
  refine W_fun [4] Try.func29 rfl Try.ntmps29 Try.results29 (Nat.le_of_ble_eq_true rfl) ?_
  refine W_seq (by kernel_rfl) ?_
  -- R0
  refine W_reg (l := [⟨some 4, Op.assign (Operand.const (Value.bool false)), 4, none⟩]) (by kernel_rfl) (by kernel_rfl) ?_
  refine TL_q rfl (QV_assign rfl) ?_
  refine TL_nil ?_
  refine W_seq (by kernel_rfl) ?_
  -- R1
  refine W_reg (l := [⟨some 5, Op.assign (Operand.const (Value.int IntKind.i64 0)), 3, none⟩]) (by kernel_rfl) (by kernel_rfl) ?_
  refine TL_q rfl (QV_assign rfl) ?_
  refine TL_nil ?_
  refine W_seq (by kernel_rfl) ?_
  refine W_seq (by kernel_rfl) ?_
  -- R2
  refine W_reg (l := [⟨some 7, Op.move (Operand.tmp 1), 22, none⟩, ⟨some 8, Op.call { callee := Callee.builtin Builtin.len, args := #[Operand.tmp 7], argTypes := #[22] }, 3, none⟩, ⟨some 9, Op.binOp BinOp.gtr 3 (Operand.tmp 8) (Operand.const (Value.int IntKind.i64 1048576)) 3, 4, none⟩]) (by kernel_rfl) (by kernel_rfl) ?_
  refine TL_q rfl (QV_move rfl) ?_
  refine TL_q rfl (QV_len rfl el22) ?_
  refine TL_q rfl (QV_gtr rfl rfl) ?_
  refine TL_nil ?_
  refine W_cond (c := Operand.tmp 9) (by kernel_rfl) rfl (fun hc9 => ?_) (fun hc9 => ?_)
  ·
    refine W_seq (by kernel_rfl) ?_
    -- R3
    refine W_reg (l := [⟨some 4, Op.assign (Operand.const (Value.bool false)), 4, none⟩]) (by kernel_rfl) (by kernel_rfl) ?_
    refine TL_q rfl (QV_assign rfl) ?_
    refine TL_nil ?_
    refine W_ret (by kernel_rfl) ?_
    first | exact ⟨_, rfl, rfl, false, rfl, fun h => by cases h⟩ | exact ⟨_, rfl, rfl, true, rfl, fun _ => by omega⟩
  ·
    have h9 := of_decide_eq_false hc9
    refine W_skip (by kernel_rfl) ?_
    refine W_seq (by kernel_rfl) ?_
    -- R4
    refine W_reg (l := [⟨some 10, Op.move (Operand.tmp 5), 3, none⟩, ⟨some 11, Op.move (Operand.tmp 1), 22, none⟩, ⟨some 12, Op.call { callee := Callee.builtin Builtin.len, args := #[Operand.tmp 11], argTypes := #[22] }, 3, none⟩, ⟨some 13, Op.binOp BinOp.add 3 (Operand.tmp 10) (Operand.tmp 12) 3, 3, none⟩, ⟨some 5, Op.assign (Operand.tmp 13), 3, none⟩]) (by kernel_rfl) (by kernel_rfl) ?_
    refine TL_q rfl (QV_move rfl) ?_
    refine TL_q rfl (QV_move rfl) ?_
    refine TL_q rfl (QV_len rfl el22) ?_
    refine TL_q rfl (QV_add (r := ((rs.length : Nat) : Int)) rfl rfl (by omega) (by omega) (by omega)) ?_
    refine TL_q rfl (QV_assign rfl) ?_
    refine TL_nil ?_
    refine W_seq (by kernel_rfl) ?_
    refine W_seq (by kernel_rfl) ?_
    -- R5
    refine W_reg (l := [⟨some 14, Op.move (Operand.tmp 5), 3, none⟩, ⟨some 15, Op.binOp BinOp.gtr 3 (Operand.tmp 14) (Operand.const (Value.int IntKind.i64 1048576)) 3, 4, none⟩]) (by kernel_rfl) (by kernel_rfl) ?_
    refine TL_q rfl (QV_move rfl) ?_
    refine TL_q rfl (QV_gtr rfl rfl) ?_
    refine TL_nil ?_
    refine W_cond (c := Operand.tmp 15) (by kernel_rfl) rfl (fun hc15 => ?_) (fun hc15 => ?_)
    ·
      refine W_seq (by kernel_rfl) ?_
      -- R6
      refine W_reg (l := [⟨some 4, Op.assign (Operand.const (Value.bool false)), 4, none⟩]) (by kernel_rfl) (by kernel_rfl) ?_
      refine TL_q rfl (QV_assign rfl) ?_
      refine TL_nil ?_
      refine W_ret (by kernel_rfl) ?_
      first | exact ⟨_, rfl, rfl, false, rfl, fun h => by cases h⟩ | exact ⟨_, rfl, rfl, true, rfl, fun _ => by omega⟩
    ·
      have h15 := of_decide_eq_false hc15
      refine W_skip (by kernel_rfl) ?_
      refine W_seq (by kernel_rfl) ?_
      refine W_seq (by kernel_rfl) ?_
      -- R7
      refine W_reg (l := [⟨some 6, Op.assign (Operand.const (Value.int IntKind.i64 0)), 3, none⟩]) (by kernel_rfl) (by kernel_rfl) ?_
      refine TL_q rfl (QV_assign rfl) ?_
      refine TL_nil ?_
      refine W_block 0 (by kernel_rfl) ?_
      refine W_loop (fun (k : Nat) w1 => k ≤ rs.length ∧ rs.length + tot (rs.take k) ≤ 1048576 ∧ w1 = w) (fun k => [(1, .slice a rs.length c), (5, .int .i64 ((rs.length + tot (rs.take k) : Nat) : Int)), (6, .int .i64 (k : Int))]) (fun k => rs.length - k) 0 (by kernel_rfl) ?_ ?_ ?_
      · exact ⟨Nat.zero_le _, by simp [tot]; omega, rfl⟩
      · exact ⟨rfl, sint (by simp [tot]), rfl, trivial⟩
      rintro k w1 ⟨hk, hacc, rfl⟩
      refine W_seq (by kernel_rfl) ?_
      refine W_seq (by kernel_rfl) ?_
      -- R8
      refine W_reg (l := [⟨some 16, Op.move (Operand.tmp 6), 3, none⟩, ⟨some 17, Op.move (Operand.tmp 1), 22, none⟩, ⟨some 18, Op.call { callee := Callee.builtin Builtin.len, args := #[Operand.tmp 17], argTypes := #[22] }, 3, none⟩, ⟨some 19, Op.binOp BinOp.lss 3 (Operand.tmp 16) (Operand.tmp 18) 3, 4, none⟩]) (by kernel_rfl) (by kernel_rfl) ?_
      refine TL_q rfl (QV_move rfl) ?_
      refine TL_q rfl (QV_move rfl) ?_
      refine TL_q rfl (QV_len rfl el22) ?_
      refine TL_q rfl (QV_lss rfl rfl) ?_
      refine TL_nil ?_
      refine W_cond (c := Operand.tmp 19) (by kernel_rfl) rfl (fun hc19 => ?_) (fun hc19 => ?_)
      ·
        have hlt : k < rs.length := by have := of_decide_eq_true hc19; omega
        obtain ⟨b, o, rfl, hbB, hcel⟩ := hp (by omega)
        obtain ⟨g1, va, vu, g2, g3, ⟨aa, ca, rfl, -⟩, ⟨au, cu, rfl, -⟩⟩ := hcel k hlt
        have hts := tot_take_succ rs k hlt
        refine W_skip (by kernel_rfl) ?_
        refine W_seq (by kernel_rfl) ?_
        refine W_block 1 (by kernel_rfl) ?_
        refine W_seq (by kernel_rfl) ?_
        refine W_seq (by kernel_rfl) ?_
        -- R10
        refine W_reg (l := [⟨some 22, Op.move (Operand.tmp 1), 22, none⟩, ⟨some 23, Op.move (Operand.tmp 6), 3, none⟩, ⟨some 24, Op.indexAddr 22 (Operand.tmp 22) (Operand.tmp 23), 0, none⟩, ⟨some 25, Op.fieldAddr 33 (Operand.tmp 24) 1, 0, none⟩, ⟨some 26, Op.load 27 (Operand.tmp 25), 27, none⟩, ⟨some 27, Op.call { callee := Callee.builtin Builtin.len, args := #[Operand.tmp 26], argTypes := #[27] }, 3, none⟩, ⟨some 28, Op.binOp BinOp.gtr 3 (Operand.tmp 27) (Operand.const (Value.int IntKind.i64 1048576)) 3, 4, none⟩]) (by kernel_rfl) (by kernel_rfl) ?_
        refine TL_q rfl (QV_move rfl) ?_
        refine TL_q rfl (QV_move rfl) ?_
        refine TL_q rfl (QV_idx rfl rfl el22 sz33 (hlt)) ?_
        refine TL_q rfl (QV_field rfl fld33_1) ?_
        refine TL_q rfl (QV_load rfl one27 (g2)) ?_
        refine TL_q rfl (QV_len rfl el27) ?_
        refine TL_q rfl (QV_gtr rfl rfl) ?_
        refine TL_nil ?_
        refine W_cond (c := Operand.tmp 28) (by kernel_rfl) rfl (fun hc28 => ?_) (fun hc28 => ?_)
        ·
          refine W_seq (by kernel_rfl) ?_
          -- R11
          refine W_reg (l := [⟨some 4, Op.assign (Operand.const (Value.bool false)), 4, none⟩]) (by kernel_rfl) (by kernel_rfl) ?_
          refine TL_q rfl (QV_assign rfl) ?_
          refine TL_nil ?_
          refine W_ret (by kernel_rfl) ?_
          first | exact ⟨_, rfl, rfl, false, rfl, fun h => by cases h⟩ | exact ⟨_, rfl, rfl, true, rfl, fun _ => by omega⟩
        ·
          have h28 := of_decide_eq_false hc28
          refine W_skip (by kernel_rfl) ?_
          refine W_seq (by kernel_rfl) ?_
          -- R12
          refine W_reg (l := [⟨some 29, Op.move (Operand.tmp 5), 3, none⟩, ⟨some 30, Op.move (Operand.tmp 1), 22, none⟩, ⟨some 31, Op.move (Operand.tmp 6), 3, none⟩, ⟨some 32, Op.indexAddr 22 (Operand.tmp 30) (Operand.tmp 31), 0, none⟩, ⟨some 33, Op.fieldAddr 33 (Operand.tmp 32) 1, 0, none⟩, ⟨some 34, Op.load 27 (Operand.tmp 33), 27, none⟩, ⟨some 35, Op.call { callee := Callee.builtin Builtin.len, args := #[Operand.tmp 34], argTypes := #[27] }, 3, none⟩, ⟨some 36, Op.binOp BinOp.add 3 (Operand.tmp 29) (Operand.tmp 35) 3, 3, none⟩, ⟨some 5, Op.assign (Operand.tmp 36), 3, none⟩]) (by kernel_rfl) (by kernel_rfl) ?_
          refine TL_q rfl (QV_move rfl) ?_
          refine TL_q rfl (QV_move rfl) ?_
          refine TL_q rfl (QV_move rfl) ?_
          refine TL_q rfl (QV_idx rfl rfl el22 sz33 (hlt)) ?_
          refine TL_q rfl (QV_field rfl fld33_1) ?_
          refine TL_q rfl (QV_load rfl one27 (g2)) ?_
          refine TL_q rfl (QV_len rfl el27) ?_
          refine TL_q rfl (QV_add (r := ((rs.length + tot (rs.take k) + (rs.getD k rd0).all.length : Nat) : Int)) rfl rfl (by omega) (by omega) (by omega)) ?_
          refine TL_q rfl (QV_assign rfl) ?_
          refine TL_nil ?_
          refine W_seq (by kernel_rfl) ?_
          refine W_seq (by kernel_rfl) ?_
          -- R13
          refine W_reg (l := [⟨some 37, Op.move (Operand.tmp 5), 3, none⟩, ⟨some 38, Op.binOp BinOp.gtr 3 (Operand.tmp 37) (Operand.const (Value.int IntKind.i64 1048576)) 3, 4, none⟩]) (by kernel_rfl) (by kernel_rfl) ?_
          refine TL_q rfl (QV_move rfl) ?_
          refine TL_q rfl (QV_gtr rfl rfl) ?_
          refine TL_nil ?_
          refine W_cond (c := Operand.tmp 38) (by kernel_rfl) rfl (fun hc38 => ?_) (fun hc38 => ?_)
          ·
            refine W_seq (by kernel_rfl) ?_
            -- R14
            refine W_reg (l := [⟨some 4, Op.assign (Operand.const (Value.bool false)), 4, none⟩]) (by kernel_rfl) (by kernel_rfl) ?_
            refine TL_q rfl (QV_assign rfl) ?_
            refine TL_nil ?_
            refine W_ret (by kernel_rfl) ?_
            first | exact ⟨_, rfl, rfl, false, rfl, fun h => by cases h⟩ | exact ⟨_, rfl, rfl, true, rfl, fun _ => by omega⟩
          ·
            have h38 := of_decide_eq_false hc38
            refine W_skip (by kernel_rfl) ?_
            refine W_seq (by kernel_rfl) ?_
            refine W_seq (by kernel_rfl) ?_
            -- R15
            refine W_reg (l := [⟨some 39, Op.move (Operand.tmp 1), 22, none⟩, ⟨some 40, Op.move (Operand.tmp 6), 3, none⟩, ⟨some 41, Op.indexAddr 22 (Operand.tmp 39) (Operand.tmp 40), 0, none⟩, ⟨some 42, Op.fieldAddr 33 (Operand.tmp 41) 2, 0, none⟩, ⟨some 43, Op.load 27 (Operand.tmp 42), 27, none⟩, ⟨some 44, Op.call { callee := Callee.builtin Builtin.len, args := #[Operand.tmp 43], argTypes := #[27] }, 3, none⟩, ⟨some 45, Op.binOp BinOp.gtr 3 (Operand.tmp 44) (Operand.const (Value.int IntKind.i64 1048576)) 3, 4, none⟩]) (by kernel_rfl) (by kernel_rfl) ?_
            refine TL_q rfl (QV_move rfl) ?_
            refine TL_q rfl (QV_move rfl) ?_
            refine TL_q rfl (QV_idx rfl rfl el22 sz33 (hlt)) ?_
            refine TL_q rfl (QV_field rfl fld33_2) ?_
            refine TL_q rfl (QV_load rfl one27 (g3)) ?_
            refine TL_q rfl (QV_len rfl el27) ?_
            refine TL_q rfl (QV_gtr rfl rfl) ?_
            refine TL_nil ?_
            refine W_cond (c := Operand.tmp 45) (by kernel_rfl) rfl (fun hc45 => ?_) (fun hc45 => ?_)
            ·
              refine W_seq (by kernel_rfl) ?_
              -- R16
              refine W_reg (l := [⟨some 4, Op.assign (Operand.const (Value.bool false)), 4, none⟩]) (by kernel_rfl) (by kernel_rfl) ?_
              refine TL_q rfl (QV_assign rfl) ?_
              refine TL_nil ?_
              refine W_ret (by kernel_rfl) ?_
              first | exact ⟨_, rfl, rfl, false, rfl, fun h => by cases h⟩ | exact ⟨_, rfl, rfl, true, rfl, fun _ => by omega⟩
            ·
              have h45 := of_decide_eq_false hc45
              refine W_skip (by kernel_rfl) ?_
              refine W_seq (by kernel_rfl) ?_
              -- R17
              refine W_reg (l := [⟨some 46, Op.move (Operand.tmp 5), 3, none⟩, ⟨some 47, Op.move (Operand.tmp 1), 22, none⟩, ⟨some 48, Op.move (Operand.tmp 6), 3, none⟩, ⟨some 49, Op.indexAddr 22 (Operand.tmp 47) (Operand.tmp 48), 0, none⟩, ⟨some 50, Op.fieldAddr 33 (Operand.tmp 49) 2, 0, none⟩, ⟨some 51, Op.load 27 (Operand.tmp 50), 27, none⟩, ⟨some 52, Op.call { callee := Callee.builtin Builtin.len, args := #[Operand.tmp 51], argTypes := #[27] }, 3, none⟩, ⟨some 53, Op.binOp BinOp.add 3 (Operand.tmp 46) (Operand.tmp 52) 3, 3, none⟩, ⟨some 5, Op.assign (Operand.tmp 53), 3, none⟩]) (by kernel_rfl) (by kernel_rfl) ?_
              refine TL_q rfl (QV_move rfl) ?_
              refine TL_q rfl (QV_move rfl) ?_
              refine TL_q rfl (QV_move rfl) ?_
              refine TL_q rfl (QV_idx rfl rfl el22 sz33 (hlt)) ?_
              refine TL_q rfl (QV_field rfl fld33_2) ?_
              refine TL_q rfl (QV_load rfl one27 (g3)) ?_
              refine TL_q rfl (QV_len rfl el27) ?_
              refine TL_q rfl (QV_add (r := ((rs.length + tot (rs.take k) + (rs.getD k rd0).all.length + (rs.getD k rd0).unl.length : Nat) : Int)) rfl rfl (by omega) (by omega) (by omega)) ?_
              refine TL_q rfl (QV_assign rfl) ?_
              refine TL_nil ?_
              refine W_seq (by kernel_rfl) ?_
              -- R18
              refine W_reg (l := [⟨some 54, Op.move (Operand.tmp 5), 3, none⟩, ⟨some 55, Op.binOp BinOp.gtr 3 (Operand.tmp 54) (Operand.const (Value.int IntKind.i64 1048576)) 3, 4, none⟩]) (by kernel_rfl) (by kernel_rfl) ?_
              refine TL_q rfl (QV_move rfl) ?_
              refine TL_q rfl (QV_gtr rfl rfl) ?_
              refine TL_nil ?_
              refine W_cond (c := Operand.tmp 55) (by kernel_rfl) rfl (fun hc55 => ?_) (fun hc55 => ?_)
              ·
                refine W_seq (by kernel_rfl) ?_
                -- R19
                refine W_reg (l := [⟨some 4, Op.assign (Operand.const (Value.bool false)), 4, none⟩]) (by kernel_rfl) (by kernel_rfl) ?_
                refine TL_q rfl (QV_assign rfl) ?_
                refine TL_nil ?_
                refine W_ret (by kernel_rfl) ?_
                first | exact ⟨_, rfl, rfl, false, rfl, fun h => by cases h⟩ | exact ⟨_, rfl, rfl, true, rfl, fun _ => by omega⟩
              ·
                have h55 := of_decide_eq_false hc55
                refine W_skip (by kernel_rfl) ?_
                -- R9
                refine W_reg (l := [⟨some 20, Op.move (Operand.tmp 6), 3, none⟩, ⟨some 21, Op.binOp BinOp.add 3 (Operand.tmp 20) (Operand.const (Value.int IntKind.i64 1)) 3, 3, none⟩, ⟨some 6, Op.assign (Operand.tmp 21), 3, none⟩]) (by kernel_rfl) (by kernel_rfl) ?_
                refine TL_q rfl (QV_move rfl) ?_
                refine TL_q rfl (QV_add (r := ((k + 1 : Nat) : Int)) rfl rfl (by omega) (by omega) (by omega)) ?_
                refine TL_q rfl (QV_assign rfl) ?_
                refine TL_nil ?_
                exact ⟨k + 1, ⟨by omega, by omega, rfl⟩, ⟨rfl, sint (by rw [hts]; omega), rfl, trivial⟩, by omega⟩
      ·
        have hge : k = rs.length := by have := of_decide_eq_false hc19; omega
        subst hge
        rw [List.take_length] at hacc
        refine W_exit 0 (by kernel_rfl) ?_
        show T Try.prog 56 (C Try.f29 [1, 1, 1, 1, 1, 1]) _ _ _
        refine W_seq (by kernel_rfl) ?_
        -- R20
        refine W_reg (l := [⟨some 4, Op.assign (Operand.const (Value.bool true)), 4, none⟩]) (by kernel_rfl) (by kernel_rfl) ?_
        refine TL_q rfl (QV_assign rfl) ?_
        refine TL_nil ?_
        refine W_ret (by kernel_rfl) ?_
        first | exact ⟨_, rfl, rfl, false, rfl, fun h => by cases h⟩ | exact ⟨_, rfl, rfl, true, rfl, fun _ => by omega⟩

set_option maxRecDepth 10000 in
theorem bytes33 (w : World) (B : Nat → Prop) (n : Int) (v : Value) (rs : List RD) (hv : RulesAt w.heap B v rs) :
    CallsS Try.prog 33 #[.int .i64 n, v] w (fun r w' => w' = w ∧ ∃ b, r = .bool b ∧ (b = true → rs.length + tot rs ≤ 1048576)) := by
  obtain ⟨a, c, rfl, hc, hn, hp⟩ := hv
  refine W_fun [4] Try.func33 rfl Try.ntmps33 Try.results33 (Nat.le_of_ble_eq_true rfl) ?_
  refine W_seq (by kernel_rfl) ?_
  -- R0
  refine W_reg (l := [⟨some 4, Op.assign (Operand.const (Value.bool false)), 4, none⟩]) (by kernel_rfl) (by kernel_rfl) ?_
  refine TL_q rfl (QV_assign rfl) ?_
  refine TL_nil ?_
  refine W_seq (by kernel_rfl) ?_
  -- R1
  refine W_reg (l := [⟨some 5, Op.assign (Operand.const (Value.int IntKind.i64 0)), 3, none⟩]) (by kernel_rfl) (by kernel_rfl) ?_
  refine TL_q rfl (QV_assign rfl) ?_
  refine TL_nil ?_
  refine W_seq (by kernel_rfl) ?_
  refine W_seq (by kernel_rfl) ?_
  -- R2
  refine W_reg (l := [⟨some 7, Op.move (Operand.tmp 1), 22, none⟩, ⟨some 8, Op.call { callee := Callee.builtin Builtin.len, args := #[Operand.tmp 7], argTypes := #[22] }, 3, none⟩, ⟨some 9, Op.binOp BinOp.gtr 3 (Operand.tmp 8) (Operand.const (Value.int IntKind.i64 1048576)) 3, 4, none⟩]) (by kernel_rfl) (by kernel_rfl) ?_
  refine TL_q rfl (QV_move rfl) ?_
  refine TL_q rfl (QV_len rfl el22) ?_
  refine TL_q rfl (QV_gtr rfl rfl) ?_
  refine TL_nil ?_
  refine W_cond (c := Operand.tmp 9) (by kernel_rfl) rfl (fun hc9 => ?_) (fun hc9 => ?_)
  ·
    refine W_seq (by kernel_rfl) ?_
    -- R3
    refine W_reg (l := [⟨some 4, Op.assign (Operand.const (Value.bool false)), 4, none⟩]) (by kernel_rfl) (by kernel_rfl) ?_
    refine TL_q rfl (QV_assign rfl) ?_
    refine TL_nil ?_
    refine W_ret (by kernel_rfl) ?_
    first | exact ⟨_, rfl, rfl, false, rfl, fun h => by cases h⟩ | exact ⟨_, rfl, rfl, true, rfl, fun _ => by omega⟩
  ·
    have h9 := of_decide_eq_false hc9
    refine W_skip (by kernel_rfl) ?_
    refine W_seq (by kernel_rfl) ?_
    -- R4
    refine W_reg (l := [⟨some 10, Op.move (Operand.tmp 5), 3, none⟩, ⟨some 11, Op.move (Operand.tmp 1), 22, none⟩, ⟨some 12, Op.call { callee := Callee.builtin Builtin.len, args := #[Operand.tmp 11], argTypes := #[22] }, 3, none⟩, ⟨some 13, Op.binOp BinOp.add 3 (Operand.tmp 10) (Operand.tmp 12) 3, 3, none⟩, ⟨some 5, Op.assign (Operand.tmp 13), 3, none⟩]) (by kernel_rfl) (by kernel_rfl) ?_
    refine TL_q rfl (QV_move rfl) ?_
    refine TL_q rfl (QV_move rfl) ?_
    refine TL_q rfl (QV_len rfl el22) ?_
    refine TL_q rfl (QV_add (r := ((rs.length : Nat) : Int)) rfl rfl (by omega) (by omega) (by omega)) ?_
    refine TL_q rfl (QV_assign rfl) ?_
    refine TL_nil ?_
    refine W_seq (by kernel_rfl) ?_
    refine W_seq (by kernel_rfl) ?_
    -- R5
    refine W_reg (l := [⟨some 14, Op.move (Operand.tmp 5), 3, none⟩, ⟨some 15, Op.binOp BinOp.gtr 3 (Operand.tmp 14) (Operand.const (Value.int IntKind.i64 1048576)) 3, 4, none⟩]) (by kernel_rfl) (by kernel_rfl) ?_
    refine TL_q rfl (QV_move rfl) ?_
    refine TL_q rfl (QV_gtr rfl rfl) ?_
    refine TL_nil ?_
    refine W_cond (c := Operand.tmp 15) (by kernel_rfl) rfl (fun hc15 => ?_) (fun hc15 => ?_)
    ·
      refine W_seq (by kernel_rfl) ?_
      -- R6
      refine W_reg (l := [⟨some 4, Op.assign (Operand.const (Value.bool false)), 4, none⟩]) (by kernel_rfl) (by kernel_rfl) ?_
      refine TL_q rfl (QV_assign rfl) ?_
      refine TL_nil ?_
      refine W_ret (by kernel_rfl) ?_
      first | exact ⟨_, rfl, rfl, false, rfl, fun h => by cases h⟩ | exact ⟨_, rfl, rfl, true, rfl, fun _ => by omega⟩
    ·
      have h15 := of_decide_eq_false hc15
      refine W_skip (by kernel_rfl) ?_
      refine W_seq (by kernel_rfl) ?_
      refine W_seq (by kernel_rfl) ?_
      -- R7
      refine W_reg (l := [⟨some 6, Op.assign (Operand.const (Value.int IntKind.i64 0)), 3, none⟩]) (by kernel_rfl) (by kernel_rfl) ?_
      refine TL_q rfl (QV_assign rfl) ?_
      refine TL_nil ?_
      refine W_block 0 (by kernel_rfl) ?_
      refine W_loop (fun (k : Nat) w1 => k ≤ rs.length ∧ rs.length + tot (rs.take k) ≤ 1048576 ∧ w1 = w) (fun k => [(1, .slice a rs.length c), (5, .int .i64 ((rs.length + tot (rs.take k) : Nat) : Int)), (6, .int .i64 (k : Int))]) (fun k => rs.length - k) 0 (by kernel_rfl) ?_ ?_ ?_
      · exact ⟨Nat.zero_le _, by simp [tot]; omega, rfl⟩
      · exact ⟨rfl, sint (by simp [tot]), rfl, trivial⟩
      rintro k w1 ⟨hk, hacc, rfl⟩
      refine W_seq (by kernel_rfl) ?_
      refine W_seq (by kernel_rfl) ?_
      -- R8
      refine W_reg (l := [⟨some 16, Op.move (Operand.tmp 6), 3, none⟩, ⟨some 17, Op.move (Operand.tmp 1), 22, none⟩, ⟨some 18, Op.call { callee := Callee.builtin Builtin.len, args := #[Operand.tmp 17], argTypes := #[22] }, 3, none⟩, ⟨some 19, Op.binOp BinOp.lss 3 (Operand.tmp 16) (Operand.tmp 18) 3, 4, none⟩]) (by kernel_rfl) (by kernel_rfl) ?_
      refine TL_q rfl (QV_move rfl) ?_
      refine TL_q rfl (QV_move rfl) ?_
      refine TL_q rfl (QV_len rfl el22) ?_
      refine TL_q rfl (QV_lss rfl rfl) ?_
      refine TL_nil ?_
      refine W_cond (c := Operand.tmp 19) (by kernel_rfl) rfl (fun hc19 => ?_) (fun hc19 => ?_)
      ·
        have hlt : k < rs.length := by have := of_decide_eq_true hc19; omega
        obtain ⟨b, o, rfl, hbB, hcel⟩ := hp (by omega)
        obtain ⟨g1, va, vu, g2, g3, ⟨aa, ca, rfl, -⟩, ⟨au, cu, rfl, -⟩⟩ := hcel k hlt
        have hts := tot_take_succ rs k hlt
        refine W_skip (by kernel_rfl) ?_
        refine W_seq (by kernel_rfl) ?_
        refine W_block 1 (by kernel_rfl) ?_
        refine W_seq (by kernel_rfl) ?_
        refine W_seq (by kernel_rfl) ?_
        -- R10
        refine W_reg (l := [⟨some 22, Op.move (Operand.tmp 1), 22, none⟩, ⟨some 23, Op.move (Operand.tmp 6), 3, none⟩, ⟨some 24, Op.indexAddr 22 (Operand.tmp 22) (Operand.tmp 23), 0, none⟩, ⟨some 25, Op.fieldAddr 33 (Operand.tmp 24) 1, 0, none⟩, ⟨some 26, Op.load 27 (Operand.tmp 25), 27, none⟩, ⟨some 27, Op.call { callee := Callee.builtin Builtin.len, args := #[Operand.tmp 26], argTypes := #[27] }, 3, none⟩, ⟨some 28, Op.binOp BinOp.gtr 3 (Operand.tmp 27) (Operand.const (Value.int IntKind.i64 1048576)) 3, 4, none⟩]) (by kernel_rfl) (by kernel_rfl) ?_
        refine TL_q rfl (QV_move rfl) ?_
        refine TL_q rfl (QV_move rfl) ?_
        refine TL_q rfl (QV_idx rfl rfl el22 sz33 (hlt)) ?_
        refine TL_q rfl (QV_field rfl fld33_1) ?_
        refine TL_q rfl (QV_load rfl one27 (g2)) ?_
        refine TL_q rfl (QV_len rfl el27) ?_
        refine TL_q rfl (QV_gtr rfl rfl) ?_
        refine TL_nil ?_
        refine W_cond (c := Operand.tmp 28) (by kernel_rfl) rfl (fun hc28 => ?_) (fun hc28 => ?_)
        ·
          refine W_seq (by kernel_rfl) ?_
          -- R11
          refine W_reg (l := [⟨some 4, Op.assign (Operand.const (Value.bool false)), 4, none⟩]) (by kernel_rfl) (by kernel_rfl) ?_
          refine TL_q rfl (QV_assign rfl) ?_
          refine TL_nil ?_
          refine W_ret (by kernel_rfl) ?_
          first | exact ⟨_, rfl, rfl, false, rfl, fun h => by cases h⟩ | exact ⟨_, rfl, rfl, true, rfl, fun _ => by omega⟩
        ·
          have h28 := of_decide_eq_false hc28
          refine W_skip (by kernel_rfl) ?_
          refine W_seq (by kernel_rfl) ?_
          -- R12
          refine W_reg (l := [⟨some 29, Op.move (Operand.tmp 5), 3, none⟩, ⟨some 30, Op.move (Operand.tmp 1), 22, none⟩, ⟨some 31, Op.move (Operand.tmp 6), 3, none⟩, ⟨some 32, Op.indexAddr 22 (Operand.tmp 30) (Operand.tmp 31), 0, none⟩, ⟨some 33, Op.fieldAddr 33 (Operand.tmp 32) 1, 0, none⟩, ⟨some 34, Op.load 27 (Operand.tmp 33), 27, none⟩, ⟨some 35, Op.call { callee := Callee.builtin Builtin.len, args := #[Operand.tmp 34], argTypes := #[27] }, 3, none⟩, ⟨some 36, Op.binOp BinOp.add 3 (Operand.tmp 29) (Operand.tmp 35) 3, 3, none⟩, ⟨some 5, Op.assign (Operand.tmp 36), 3, none⟩]) (by kernel_rfl) (by kernel_rfl) ?_
          refine TL_q rfl (QV_move rfl) ?_
          refine TL_q rfl (QV_move rfl) ?_
          refine TL_q rfl (QV_move rfl) ?_
          refine TL_q rfl (QV_idx rfl rfl el22 sz33 (hlt)) ?_
          refine TL_q rfl (QV_field rfl fld33_1) ?_
          refine TL_q rfl (QV_load rfl one27 (g2)) ?_
          refine TL_q rfl (QV_len rfl el27) ?_
          refine TL_q rfl (QV_add (r := ((rs.length + tot (rs.take k) + (rs.getD k rd0).all.length : Nat) : Int)) rfl rfl (by omega) (by omega) (by omega)) ?_
          refine TL_q rfl (QV_assign rfl) ?_
          refine TL_nil ?_
          refine W_seq (by kernel_rfl) ?_
          refine W_seq (by kernel_rfl) ?_
          -- R13
          refine W_reg (l := [⟨some 37, Op.move (Operand.tmp 5), 3, none⟩, ⟨some 38, Op.binOp BinOp.gtr 3 (Operand.tmp 37) (Operand.const (Value.int IntKind.i64 1048576)) 3, 4, none⟩]) (by kernel_rfl) (by kernel_rfl) ?_
          refine TL_q rfl (QV_move rfl) ?_
          refine TL_q rfl (QV_gtr rfl rfl) ?_
          refine TL_nil ?_
          refine W_cond (c := Operand.tmp 38) (by kernel_rfl) rfl (fun hc38 => ?_) (fun hc38 => ?_)
          ·
            refine W_seq (by kernel_rfl) ?_
            -- R14
            refine W_reg (l := [⟨some 4, Op.assign (Operand.const (Value.bool false)), 4, none⟩]) (by kernel_rfl) (by kernel_rfl) ?_
            refine TL_q rfl (QV_assign rfl) ?_
            refine TL_nil ?_
            refine W_ret (by kernel_rfl) ?_
            first | exact ⟨_, rfl, rfl, false, rfl, fun h => by cases h⟩ | exact ⟨_, rfl, rfl, true, rfl, fun _ => by omega⟩
          ·
            have h38 := of_decide_eq_false hc38
            refine W_skip (by kernel_rfl) ?_
            refine W_seq (by kernel_rfl) ?_
            refine W_seq (by kernel_rfl) ?_
            -- R15
            refine W_reg (l := [⟨some 39, Op.move (Operand.tmp 1), 22, none⟩, ⟨some 40, Op.move (Operand.tmp 6), 3, none⟩, ⟨some 41, Op.indexAddr 22 (Operand.tmp 39) (Operand.tmp 40), 0, none⟩, ⟨some 42, Op.fieldAddr 33 (Operand.tmp 41) 2, 0, none⟩, ⟨some 43, Op.load 27 (Operand.tmp 42), 27, none⟩, ⟨some 44, Op.call { callee := Callee.builtin Builtin.len, args := #[Operand.tmp 43], argTypes := #[27] }, 3, none⟩, ⟨some 45, Op.binOp BinOp.gtr 3 (Operand.tmp 44) (Operand.const (Value.int IntKind.i64 1048576)) 3, 4, none⟩]) (by kernel_rfl) (by kernel_rfl) ?_
            refine TL_q rfl (QV_move rfl) ?_
            refine TL_q rfl (QV_move rfl) ?_
            refine TL_q rfl (QV_idx rfl rfl el22 sz33 (hlt)) ?_
            refine TL_q rfl (QV_field rfl fld33_2) ?_
            refine TL_q rfl (QV_load rfl one27 (g3)) ?_
            refine TL_q rfl (QV_len rfl el27) ?_
            refine TL_q rfl (QV_gtr rfl rfl) ?_
            refine TL_nil ?_
            refine W_cond (c := Operand.tmp 45) (by kernel_rfl) rfl (fun hc45 => ?_) (fun hc45 => ?_)
            ·
              refine W_seq (by kernel_rfl) ?_
              -- R16
              refine W_reg (l := [⟨some 4, Op.assign (Operand.const (Value.bool false)), 4, none⟩]) (by kernel_rfl) (by kernel_rfl) ?_
              refine TL_q rfl (QV_assign rfl) ?_
              refine TL_nil ?_
              refine W_ret (by kernel_rfl) ?_
              first | exact ⟨_, rfl, rfl, false, rfl, fun h => by cases h⟩ | exact ⟨_, rfl, rfl, true, rfl, fun _ => by omega⟩
            ·
              have h45 := of_decide_eq_false hc45
              refine W_skip (by kernel_rfl) ?_
              refine W_seq (by kernel_rfl) ?_
              -- R17
              refine W_reg (l := [⟨some 46, Op.move (Operand.tmp 5), 3, none⟩, ⟨some 47, Op.move (Operand.tmp 1), 22, none⟩, ⟨some 48, Op.move (Operand.tmp 6), 3, none⟩, ⟨some 49, Op.indexAddr 22 (Operand.tmp 47) (Operand.tmp 48), 0, none⟩, ⟨some 50, Op.fieldAddr 33 (Operand.tmp 49) 2, 0, none⟩, ⟨some 51, Op.load 27 (Operand.tmp 50), 27, none⟩, ⟨some 52, Op.call { callee := Callee.builtin Builtin.len, args := #[Operand.tmp 51], argTypes := #[27] }, 3, none⟩, ⟨some 53, Op.binOp BinOp.add 3 (Operand.tmp 46) (Operand.tmp 52) 3, 3, none⟩, ⟨some 5, Op.assign (Operand.tmp 53), 3, none⟩]) (by kernel_rfl) (by kernel_rfl) ?_
              refine TL_q rfl (QV_move rfl) ?_
              refine TL_q rfl (QV_move rfl) ?_
              refine TL_q rfl (QV_move rfl) ?_
              refine TL_q rfl (QV_idx rfl rfl el22 sz33 (hlt)) ?_
              refine TL_q rfl (QV_field rfl fld33_2) ?_
              refine TL_q rfl (QV_load rfl one27 (g3)) ?_
              refine TL_q rfl (QV_len rfl el27) ?_
              refine TL_q rfl (QV_add (r := ((rs.length + tot (rs.take k) + (rs.getD k rd0).all.length + (rs.getD k rd0).unl.length : Nat) : Int)) rfl rfl (by omega) (by omega) (by omega)) ?_
              refine TL_q rfl (QV_assign rfl) ?_
              refine TL_nil ?_
              refine W_seq (by kernel_rfl) ?_
              -- R18
              refine W_reg (l := [⟨some 54, Op.move (Operand.tmp 5), 3, none⟩, ⟨some 55, Op.binOp BinOp.gtr 3 (Operand.tmp 54) (Operand.const (Value.int IntKind.i64 1048576)) 3, 4, none⟩]) (by kernel_rfl) (by kernel_rfl) ?_
              refine TL_q rfl (QV_move rfl) ?_
              refine TL_q rfl (QV_gtr rfl rfl) ?_
              refine TL_nil ?_
              refine W_cond (c := Operand.tmp 55) (by kernel_rfl) rfl (fun hc55 => ?_) (fun hc55 => ?_)
              ·
                refine W_seq (by kernel_rfl) ?_
                -- R19
                refine W_reg (l := [⟨some 4, Op.assign (Operand.const (Value.bool false)), 4, none⟩]) (by kernel_rfl) (by kernel_rfl) ?_
                refine TL_q rfl (QV_assign rfl) ?_
                refine TL_nil ?_
                refine W_ret (by kernel_rfl) ?_
                first | exact ⟨_, rfl, rfl, false, rfl, fun h => by cases h⟩ | exact ⟨_, rfl, rfl, true, rfl, fun _ => by omega⟩
              ·
                have h55 := of_decide_eq_false hc55
                refine W_skip (by kernel_rfl) ?_
                -- R9
                refine W_reg (l := [⟨some 20, Op.move (Operand.tmp 6), 3, none⟩, ⟨some 21, Op.binOp BinOp.add 3 (Operand.tmp 20) (Operand.const (Value.int IntKind.i64 1)) 3, 3, none⟩, ⟨some 6, Op.assign (Operand.tmp 21), 3, none⟩]) (by kernel_rfl) (by kernel_rfl) ?_
                refine TL_q rfl (QV_move rfl) ?_
                refine TL_q rfl (QV_add (r := ((k + 1 : Nat) : Int)) rfl rfl (by omega) (by omega) (by omega)) ?_
                refine TL_q rfl (QV_assign rfl) ?_
                refine TL_nil ?_
                exact ⟨k + 1, ⟨by omega, by omega, rfl⟩, ⟨rfl, sint (by rw [hts]; omega), rfl, trivial⟩, by omega⟩
      ·
        have hge : k = rs.length := by have := of_decide_eq_false hc19; omega
        subst hge
        rw [List.take_length] at hacc
        refine W_exit 0 (by kernel_rfl) ?_
        show T Try.prog 56 (C Try.f33 [1, 1, 1, 1, 1, 1]) _ _ _
        refine W_seq (by kernel_rfl) ?_
        -- R20
        refine W_reg (l := [⟨some 4, Op.assign (Operand.const (Value.bool true)), 4, none⟩]) (by kernel_rfl) (by kernel_rfl) ?_
        refine TL_q rfl (QV_assign rfl) ?_
        refine TL_nil ?_
        refine W_ret (by kernel_rfl) ?_
        first | exact ⟨_, rfl, rfl, false, rfl, fun h => by cases h⟩ | exact ⟨_, rfl, rfl, true, rfl, fun _ => by omega⟩

end Go.Proofs.Qxb6600121a
