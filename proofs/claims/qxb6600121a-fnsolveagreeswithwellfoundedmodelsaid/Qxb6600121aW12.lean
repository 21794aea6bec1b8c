/-
   Walks written by program (wip/gen).
-/
import Derived.Test.Qxb6600121aData
namespace Go.Proofs.Qxb6600121a
open Go Go.Proofs
set_option linter.unusedVariables false
set_option linter.unusedSimpArgs false

set_option maxRecDepth 10000 in
theorem inRange (w : World) (B : Nat → Prop) (n : Nat) (v : Value) (rs : List RD) (hv : RulesAt w.heap B v rs) (hl : rs.length + tot rs ≤ 1048576) :
    CallsS Try.prog 12 #[.int .i64 (n : Int), v] w (fun r w' => Fr (fun _ => False) w w' ∧ ∃ b, r = .bool b ∧ (b = true → ∀ i, i < rs.length → InR n (rs.getD i rd0))) := by
  obtain ⟨a, c, rfl, hc, hn, hp⟩ := hv
  refine W_fun [4] Try.func12 rfl Try.ntmps12 Try.results12 (Nat.le_of_ble_eq_true rfl) ?_
  refine W_seq (by kernel_rfl) ?_
  -- R0
  refine W_reg (l := [⟨some 4, Op.assign (Operand.const (Value.bool false)), 4, none⟩]) (by kernel_rfl) (by kernel_rfl) ?_
  refine TL_q rfl (QV_assign rfl) ?_
  refine TL_nil ?_
  refine W_seq (by kernel_rfl) ?_
  refine W_seq (by kernel_rfl) ?_
  -- R1
  refine W_reg (l := [⟨some 5, Op.assign (Operand.const (Value.int IntKind.i64 0)), 3, none⟩]) (by kernel_rfl) (by kernel_rfl) ?_
  refine TL_q rfl (QV_assign rfl) ?_
  refine TL_nil ?_
  refine W_block 0 (by kernel_rfl) ?_
  refine W_loop (fun (k : Nat) w1 => k ≤ rs.length ∧ Fr (fun _ => False) w w1 ∧ ∀ i, i < k → InR n (rs.getD i rd0)) (fun k => [(0, .int .i64 (n : Int)), (1, .slice a rs.length c), (5, .int .i64 (k : Int))]) (fun k => rs.length - k) 0 (by kernel_rfl) ?_ ?_ ?_
  · exact ⟨Nat.zero_le _, Fr.refl _ _, fun i hi => by omega⟩
  · exact ⟨rfl, rfl, rfl, trivial⟩
  rintro k w1 ⟨hk, hfr, hin⟩
  refine W_seq (by kernel_rfl) ?_
  refine W_seq (by kernel_rfl) ?_
  -- R2
  refine W_reg (l := [⟨some 9, Op.move (Operand.tmp 5), 3, none⟩, ⟨some 10, Op.move (Operand.tmp 1), 22, none⟩, ⟨some 11, Op.call { callee := Callee.builtin Builtin.len, args := #[Operand.tmp 10], argTypes := #[22] }, 3, none⟩, ⟨some 12, Op.binOp BinOp.lss 3 (Operand.tmp 9) (Operand.tmp 11) 3, 4, none⟩]) (by kernel_rfl) (by kernel_rfl) ?_
  refine TL_q rfl (QV_move rfl) ?_
  refine TL_q rfl (QV_move rfl) ?_
  refine TL_q rfl (QV_len rfl el22) ?_
  refine TL_q rfl (QV_lss rfl rfl) ?_
  refine TL_nil ?_
  refine W_cond (c := Operand.tmp 12) (by kernel_rfl) rfl (fun hc12 => ?_) (fun hc12 => ?_)
  ·
    have hlt : k < rs.length := by have := of_decide_eq_true hc12; omega
    obtain ⟨b, o, rfl, hbB, hcel⟩ := hp (by omega)
    obtain ⟨g1, va, vu, g2, g3, ⟨aa, ca, rfl, hca, hna, hpa⟩, ⟨au, cu, rfl, hcu, hnu, hpu⟩⟩ := hcel k hlt
    have hsa : (rs.getD k rd0).all.length ≤ 1048576 := by have := tot_take_succ rs k hlt; have := tot_take_le rs (k + 1); omega
    have hsu : (rs.getD k rd0).unl.length ≤ 1048576 := by have := tot_take_succ rs k hlt; have := tot_take_le rs (k + 1); omega
    refine W_skip (by kernel_rfl) ?_
    refine W_seq (by kernel_rfl) ?_
    refine W_block 1 (by kernel_rfl) ?_
    refine W_seq (by kernel_rfl) ?_
    -- R4
    refine W_reg (l := [⟨some 15, Op.move (Operand.tmp 1), 22, none⟩, ⟨some 16, Op.move (Operand.tmp 5), 3, none⟩, ⟨some 17, Op.indexAddr 22 (Operand.tmp 15) (Operand.tmp 16), 0, none⟩, ⟨some 18, Op.load 33 (Operand.tmp 17), 33, none⟩, ⟨some 6, Op.alloc 33, 0, none⟩, ⟨none, Op.store 33 (Operand.tmp 6) (Operand.tmp 18), 0, none⟩]) (by kernel_rfl) (by kernel_rfl) ?_
    refine TL_q rfl (QV_move rfl) ?_
    refine TL_q rfl (QV_move rfl) ?_
    refine TL_q rfl (QV_idx rfl rfl el22 sz33 (hlt)) ?_
    refine TL_q rfl (QV_load3 rfl Try.underlying33 sz33 (cel_fr g1 hfr (fun h => h)) (cel_fr g2 hfr (fun h => h)) (cel_fr g3 hfr (fun h => h))) ?_
    refine TL_e (EV_alloc rfl in33 fun w2 hw2 => ?_)
    have hb2 : Blk w2.heap w1.heap.size 33 [.int .i64 0, .slice none 0 0, .slice none 0 0] := hw2.blk
    refine TL_e (EV_store3 rfl rfl rfl rfl rfl sz33 hb2 (by decide) fun w3 hu => ?_)
    have hru : Blk w3.heap w1.heap.size 33 [.int .i64 (rs.getD k rd0).head, .slice aa (rs.getD k rd0).all.length ca, .slice au (rs.getD k rd0).unl.length cu] := hu.blk
    have hf3 : Fr (fun _ => False) w w3 := (hfr.newb hw2).upd hu hfr.size
    have c0 : cel w3.heap w1.heap.size 0 = some (.int .i64 (rs.getD k rd0).head) := by rw [hru.cel]; rfl
    have c1 : cel w3.heap w1.heap.size 1 = some (.slice aa (rs.getD k rd0).all.length ca) := by rw [hru.cel]; rfl
    have c2 : cel w3.heap w1.heap.size 2 = some (.slice au (rs.getD k rd0).unl.length cu) := by rw [hru.cel]; rfl
    refine TL_nil ?_
    refine W_seq (by kernel_rfl) ?_
    refine W_seq (by kernel_rfl) ?_
    -- R5
    refine W_reg (l := [⟨some 19, Op.fieldAddr 33 (Operand.tmp 6) 0, 0, none⟩, ⟨some 20, Op.load 3 (Operand.tmp 19), 3, none⟩, ⟨some 21, Op.binOp BinOp.lss 3 (Operand.tmp 20) (Operand.const (Value.int IntKind.i64 0)) 3, 4, none⟩, ⟨some 22, Op.move (Operand.tmp 21), 4, none⟩, ⟨some 23, Op.fieldAddr 33 (Operand.tmp 6) 0, 0, some (3, false)⟩, ⟨some 24, Op.load 3 (Operand.tmp 23), 3, some (3, false)⟩, ⟨some 25, Op.move (Operand.tmp 0), 3, some (3, false)⟩, ⟨some 26, Op.binOp BinOp.geq 3 (Operand.tmp 24) (Operand.tmp 25) 3, 4, some (3, false)⟩, ⟨some 27, Op.pick (Operand.tmp 22) (Operand.const (Value.bool true)) (Operand.tmp 26), 4, none⟩]) (by kernel_rfl) (by kernel_rfl) ?_
    refine TL_q rfl (QV_field0 rfl fld33_0) ?_
    refine TL_q rfl (QV_load rfl one3 (by assumption)) ?_
    refine TL_q rfl (QV_lss rfl rfl) ?_
    refine TL_q rfl (QV_move rfl) ?_
    refine TL_cases (t := 22) rfl (fun hb22 => ?_) (fun hb22 => ?_)
    ·
      refine TL_gs rfl rfl rfl rfl ?_
      refine TL_gs rfl rfl rfl rfl ?_
      refine TL_gs rfl rfl rfl rfl ?_
      refine TL_gs rfl rfl rfl rfl ?_
      refine TL_q rfl (QV_pickT rfl rfl) ?_
      refine TL_nil ?_
      refine W_condT (c := Operand.tmp 27) (by kernel_rfl) rfl ?_
      refine W_seq (by kernel_rfl) ?_
      -- R6
      refine W_reg (l := [⟨some 4, Op.assign (Operand.const (Value.bool false)), 4, none⟩]) (by kernel_rfl) (by kernel_rfl) ?_
      refine TL_q rfl (QV_assign rfl) ?_
      refine TL_nil ?_
      refine W_ret (by kernel_rfl) ?_
      first | exact ⟨_, rfl, by assumption, false, rfl, fun h => by cases h⟩ | exact ⟨_, rfl, by assumption, true, rfl, fun _ => hall⟩
    ·
      have h22 := of_decide_eq_false hb22
      refine TL_gq rfl rfl rfl rfl (QV_field0 rfl fld33_0) ?_
      refine TL_gq rfl rfl rfl rfl (QV_load rfl one3 (by assumption)) ?_
      refine TL_gq rfl rfl rfl rfl (QV_move rfl) ?_
      refine TL_gq rfl rfl rfl rfl (QV_geq rfl rfl) ?_
      refine TL_q rfl (QV_pickF rfl rfl) ?_
      refine TL_nil ?_
      refine W_cond (c := Operand.tmp 27) (by kernel_rfl) rfl (fun hc27 => ?_) (fun hc27 => ?_)
      ·
        refine W_seq (by kernel_rfl) ?_
        -- R6
        refine W_reg (l := [⟨some 4, Op.assign (Operand.const (Value.bool false)), 4, none⟩]) (by kernel_rfl) (by kernel_rfl) ?_
        refine TL_q rfl (QV_assign rfl) ?_
        refine TL_nil ?_
        refine W_ret (by kernel_rfl) ?_
        first | exact ⟨_, rfl, by assumption, false, rfl, fun h => by cases h⟩ | exact ⟨_, rfl, by assumption, true, rfl, fun _ => hall⟩
      ·
        have h27 := of_decide_eq_false hc27
        refine W_skip (by kernel_rfl) ?_
        refine W_seq (by kernel_rfl) ?_
        refine W_seq (by kernel_rfl) ?_
        -- R7
        refine W_reg (l := [⟨some 7, Op.assign (Operand.const (Value.int IntKind.i64 0)), 3, none⟩]) (by kernel_rfl) (by kernel_rfl) ?_
        refine TL_q rfl (QV_assign rfl) ?_
        refine TL_nil ?_
        refine W_block 2 (by kernel_rfl) ?_
        refine W_loop (fun (j : Nat) w4 => j ≤ (rs.getD k rd0).all.length ∧ w3 = w4 ∧ ∀ i, i < j → 0 ≤ (rs.getD k rd0).all.getD i 0 ∧ (rs.getD k rd0).all.getD i 0 < n) (fun j => [(0, .int .i64 (n : Int)), (1, .slice (some ⟨b, o, none⟩) rs.length c), (5, .int .i64 (k : Int)), (6, .pointer (some ⟨w1.heap.size, 0, none⟩)), (7, .int .i64 (j : Int))]) (fun j => (rs.getD k rd0).all.length - j) 0 (by kernel_rfl) ?_ ?_ ?_
        · exact ⟨Nat.zero_le _, rfl, fun i hi => by omega⟩
        · exact ⟨rfl, rfl, rfl, rfl, rfl, trivial⟩
        rintro j w4 ⟨hj, rfl, hina⟩
        refine W_seq (by kernel_rfl) ?_
        refine W_seq (by kernel_rfl) ?_
        -- R8
        refine W_reg (l := [⟨some 28, Op.move (Operand.tmp 7), 3, none⟩, ⟨some 29, Op.fieldAddr 33 (Operand.tmp 6) 1, 0, none⟩, ⟨some 30, Op.load 27 (Operand.tmp 29), 27, none⟩, ⟨some 31, Op.call { callee := Callee.builtin Builtin.len, args := #[Operand.tmp 30], argTypes := #[27] }, 3, none⟩, ⟨some 32, Op.binOp BinOp.lss 3 (Operand.tmp 28) (Operand.tmp 31) 3, 4, none⟩]) (by kernel_rfl) (by kernel_rfl) ?_
        refine TL_q rfl (QV_move rfl) ?_
        refine TL_q rfl (QV_field rfl fld33_1) ?_
        refine TL_q rfl (QV_load rfl one27 (by assumption)) ?_
        refine TL_q rfl (QV_len rfl el27) ?_
        refine TL_q rfl (QV_lss rfl rfl) ?_
        refine TL_nil ?_
        refine W_cond (c := Operand.tmp 32) (by kernel_rfl) rfl (fun hc32 => ?_) (fun hc32 => ?_)
        ·
          have hjl : j < (rs.getD k rd0).all.length := by have := of_decide_eq_true hc32; omega
          obtain ⟨ab, ao, rfl, habB, hacel⟩ := hpa (by omega)
          refine W_skip (by kernel_rfl) ?_
          refine W_seq (by kernel_rfl) ?_
          refine W_block 3 (by kernel_rfl) ?_
          refine W_seq (by kernel_rfl) ?_
          -- R10
          refine W_reg (l := [⟨some 35, Op.fieldAddr 33 (Operand.tmp 6) 1, 0, none⟩, ⟨some 36, Op.load 27 (Operand.tmp 35), 27, none⟩, ⟨some 37, Op.move (Operand.tmp 7), 3, none⟩, ⟨some 38, Op.indexAddr 27 (Operand.tmp 36) (Operand.tmp 37), 0, none⟩, ⟨some 39, Op.load 3 (Operand.tmp 38), 3, none⟩, ⟨some 40, Op.binOp BinOp.lss 3 (Operand.tmp 39) (Operand.const (Value.int IntKind.i64 0)) 3, 4, none⟩, ⟨some 41, Op.move (Operand.tmp 40), 4, none⟩, ⟨some 42, Op.fieldAddr 33 (Operand.tmp 6) 1, 0, some (6, false)⟩, ⟨some 43, Op.load 27 (Operand.tmp 42), 27, some (6, false)⟩, ⟨some 44, Op.move (Operand.tmp 7), 3, some (6, false)⟩, ⟨some 45, Op.indexAddr 27 (Operand.tmp 43) (Operand.tmp 44), 0, some (6, false)⟩, ⟨some 46, Op.load 3 (Operand.tmp 45), 3, some (6, false)⟩, ⟨some 47, Op.move (Operand.tmp 0), 3, some (6, false)⟩, ⟨some 48, Op.binOp BinOp.geq 3 (Operand.tmp 46) (Operand.tmp 47) 3, 4, some (6, false)⟩, ⟨some 49, Op.pick (Operand.tmp 41) (Operand.const (Value.bool true)) (Operand.tmp 48), 4, none⟩]) (by kernel_rfl) (by kernel_rfl) ?_
          refine TL_q rfl (QV_field rfl fld33_1) ?_
          refine TL_q rfl (QV_load rfl one27 (by assumption)) ?_
          refine TL_q rfl (QV_move rfl) ?_
          refine TL_q rfl (QV_idxO rfl rfl el27 sz3 (hjl)) ?_
          refine TL_q rfl (QV_load rfl one3 (cel_fr (hacel j hjl) hf3 (fun h => h))) ?_
          refine TL_q rfl (QV_lss rfl rfl) ?_
          refine TL_q rfl (QV_move rfl) ?_
          refine TL_cases (t := 41) rfl (fun hb41 => ?_) (fun hb41 => ?_)
          ·
            refine TL_gs rfl rfl rfl rfl ?_
            refine TL_gs rfl rfl rfl rfl ?_
            refine TL_gs rfl rfl rfl rfl ?_
            refine TL_gs rfl rfl rfl rfl ?_
            refine TL_gs rfl rfl rfl rfl ?_
            refine TL_gs rfl rfl rfl rfl ?_
            refine TL_gs rfl rfl rfl rfl ?_
            refine TL_q rfl (QV_pickT rfl rfl) ?_
            refine TL_nil ?_
            refine W_condT (c := Operand.tmp 49) (by kernel_rfl) rfl ?_
            refine W_seq (by kernel_rfl) ?_
            -- R11
            refine W_reg (l := [⟨some 4, Op.assign (Operand.const (Value.bool false)), 4, none⟩]) (by kernel_rfl) (by kernel_rfl) ?_
            refine TL_q rfl (QV_assign rfl) ?_
            refine TL_nil ?_
            refine W_ret (by kernel_rfl) ?_
            first | exact ⟨_, rfl, by assumption, false, rfl, fun h => by cases h⟩ | exact ⟨_, rfl, by assumption, true, rfl, fun _ => hall⟩
          ·
            have h41 := of_decide_eq_false hb41
            refine TL_gq rfl rfl rfl rfl (QV_field rfl fld33_1) ?_
            refine TL_gq rfl rfl rfl rfl (QV_load rfl one27 (by assumption)) ?_
            refine TL_gq rfl rfl rfl rfl (QV_move rfl) ?_
            refine TL_gq rfl rfl rfl rfl (QV_idxO rfl rfl el27 sz3 (hjl)) ?_
            refine TL_gq rfl rfl rfl rfl (QV_load rfl one3 (cel_fr (hacel j hjl) hf3 (fun h => h))) ?_
            refine TL_gq rfl rfl rfl rfl (QV_move rfl) ?_
            refine TL_gq rfl rfl rfl rfl (QV_geq rfl rfl) ?_
            refine TL_q rfl (QV_pickF rfl rfl) ?_
            refine TL_nil ?_
            refine W_cond (c := Operand.tmp 49) (by kernel_rfl) rfl (fun hc49 => ?_) (fun hc49 => ?_)
            ·
              refine W_seq (by kernel_rfl) ?_
              -- R11
              refine W_reg (l := [⟨some 4, Op.assign (Operand.const (Value.bool false)), 4, none⟩]) (by kernel_rfl) (by kernel_rfl) ?_
              refine TL_q rfl (QV_assign rfl) ?_
              refine TL_nil ?_
              refine W_ret (by kernel_rfl) ?_
              first | exact ⟨_, rfl, by assumption, false, rfl, fun h => by cases h⟩ | exact ⟨_, rfl, by assumption, true, rfl, fun _ => hall⟩
            ·
              have h49 := of_decide_eq_false hc49
              refine W_skip (by kernel_rfl) ?_
              -- R9
              refine W_reg (l := [⟨some 33, Op.move (Operand.tmp 7), 3, none⟩, ⟨some 34, Op.binOp BinOp.add 3 (Operand.tmp 33) (Operand.const (Value.int IntKind.i64 1)) 3, 3, none⟩, ⟨some 7, Op.assign (Operand.tmp 34), 3, none⟩]) (by kernel_rfl) (by kernel_rfl) ?_
              refine TL_q rfl (QV_move rfl) ?_
              refine TL_q rfl (QV_add (r := ((j + 1 : Nat) : Int)) rfl rfl (by omega) (by omega) (by omega)) ?_
              refine TL_q rfl (QV_assign rfl) ?_
              refine TL_nil ?_
              exact ⟨j + 1, ⟨by omega, rfl, all_succ hina ⟨by omega, by omega⟩⟩, ⟨rfl, rfl, rfl, rfl, rfl, trivial⟩, by omega⟩
        ·
          have hall1 : j = (rs.getD k rd0).all.length := by have := of_decide_eq_false hc32; omega
          subst hall1
          refine W_exit 2 (by kernel_rfl) ?_
          show T Try.prog 72 (C Try.f12 [1, 1, 1, 0, 0, 1, 0, 0, 1, 0, 1]) _ _ _
          refine W_seq (by kernel_rfl) ?_
          -- R12
          refine W_reg (l := [⟨some 8, Op.assign (Operand.const (Value.int IntKind.i64 0)), 3, none⟩]) (by kernel_rfl) (by kernel_rfl) ?_
          refine TL_q rfl (QV_assign rfl) ?_
          refine TL_nil ?_
          refine W_block 4 (by kernel_rfl) ?_
          refine W_loop (fun (j : Nat) w4 => j ≤ (rs.getD k rd0).unl.length ∧ w3 = w4 ∧ ∀ i, i < j → 0 ≤ (rs.getD k rd0).unl.getD i 0 ∧ (rs.getD k rd0).unl.getD i 0 < n) (fun j => [(0, .int .i64 (n : Int)), (1, .slice (some ⟨b, o, none⟩) rs.length c), (5, .int .i64 (k : Int)), (6, .pointer (some ⟨w1.heap.size, 0, none⟩)), (8, .int .i64 (j : Int))]) (fun j => (rs.getD k rd0).unl.length - j) 0 (by kernel_rfl) ?_ ?_ ?_
          · exact ⟨Nat.zero_le _, rfl, fun i hi => by omega⟩
          · exact ⟨rfl, rfl, rfl, rfl, rfl, trivial⟩
          rintro j w4 ⟨hj, rfl, hinu⟩
          refine W_seq (by kernel_rfl) ?_
          refine W_seq (by kernel_rfl) ?_
          -- R13
          refine W_reg (l := [⟨some 50, Op.move (Operand.tmp 8), 3, none⟩, ⟨some 51, Op.fieldAddr 33 (Operand.tmp 6) 2, 0, none⟩, ⟨some 52, Op.load 27 (Operand.tmp 51), 27, none⟩, ⟨some 53, Op.call { callee := Callee.builtin Builtin.len, args := #[Operand.tmp 52], argTypes := #[27] }, 3, none⟩, ⟨some 54, Op.binOp BinOp.lss 3 (Operand.tmp 50) (Operand.tmp 53) 3, 4, none⟩]) (by kernel_rfl) (by kernel_rfl) ?_
          refine TL_q rfl (QV_move rfl) ?_
          refine TL_q rfl (QV_field rfl fld33_2) ?_
          refine TL_q rfl (QV_load rfl one27 (by assumption)) ?_
          refine TL_q rfl (QV_len rfl el27) ?_
          refine TL_q rfl (QV_lss rfl rfl) ?_
          refine TL_nil ?_
          refine W_cond (c := Operand.tmp 54) (by kernel_rfl) rfl (fun hc54 => ?_) (fun hc54 => ?_)
          ·
            have hjl : j < (rs.getD k rd0).unl.length := by have := of_decide_eq_true hc54; omega
            obtain ⟨ab, ao, rfl, habB, hacel⟩ := hpu (by omega)
            refine W_skip (by kernel_rfl) ?_
            refine W_seq (by kernel_rfl) ?_
            refine W_block 5 (by kernel_rfl) ?_
            refine W_seq (by kernel_rfl) ?_
            -- R15
            refine W_reg (l := [⟨some 57, Op.fieldAddr 33 (Operand.tmp 6) 2, 0, none⟩, ⟨some 58, Op.load 27 (Operand.tmp 57), 27, none⟩, ⟨some 59, Op.move (Operand.tmp 8), 3, none⟩, ⟨some 60, Op.indexAddr 27 (Operand.tmp 58) (Operand.tmp 59), 0, none⟩, ⟨some 61, Op.load 3 (Operand.tmp 60), 3, none⟩, ⟨some 62, Op.binOp BinOp.lss 3 (Operand.tmp 61) (Operand.const (Value.int IntKind.i64 0)) 3, 4, none⟩, ⟨some 63, Op.move (Operand.tmp 62), 4, none⟩, ⟨some 64, Op.fieldAddr 33 (Operand.tmp 6) 2, 0, some (6, false)⟩, ⟨some 65, Op.load 27 (Operand.tmp 64), 27, some (6, false)⟩, ⟨some 66, Op.move (Operand.tmp 8), 3, some (6, false)⟩, ⟨some 67, Op.indexAddr 27 (Operand.tmp 65) (Operand.tmp 66), 0, some (6, false)⟩, ⟨some 68, Op.load 3 (Operand.tmp 67), 3, some (6, false)⟩, ⟨some 69, Op.move (Operand.tmp 0), 3, some (6, false)⟩, ⟨some 70, Op.binOp BinOp.geq 3 (Operand.tmp 68) (Operand.tmp 69) 3, 4, some (6, false)⟩, ⟨some 71, Op.pick (Operand.tmp 63) (Operand.const (Value.bool true)) (Operand.tmp 70), 4, none⟩]) (by kernel_rfl) (by kernel_rfl) ?_
            refine TL_q rfl (QV_field rfl fld33_2) ?_
            refine TL_q rfl (QV_load rfl one27 (by assumption)) ?_
            refine TL_q rfl (QV_move rfl) ?_
            refine TL_q rfl (QV_idxO rfl rfl el27 sz3 (hjl)) ?_
            refine TL_q rfl (QV_load rfl one3 (cel_fr (hacel j hjl) hf3 (fun h => h))) ?_
            refine TL_q rfl (QV_lss rfl rfl) ?_
            refine TL_q rfl (QV_move rfl) ?_
            refine TL_cases (t := 63) rfl (fun hb63 => ?_) (fun hb63 => ?_)
            ·
              refine TL_gs rfl rfl rfl rfl ?_
              refine TL_gs rfl rfl rfl rfl ?_
              refine TL_gs rfl rfl rfl rfl ?_
              refine TL_gs rfl rfl rfl rfl ?_
              refine TL_gs rfl rfl rfl rfl ?_
              refine TL_gs rfl rfl rfl rfl ?_
              refine TL_gs rfl rfl rfl rfl ?_
              refine TL_q rfl (QV_pickT rfl rfl) ?_
              refine TL_nil ?_
              refine W_condT (c := Operand.tmp 71) (by kernel_rfl) rfl ?_
              refine W_seq (by kernel_rfl) ?_
              -- R16
              refine W_reg (l := [⟨some 4, Op.assign (Operand.const (Value.bool false)), 4, none⟩]) (by kernel_rfl) (by kernel_rfl) ?_
              refine TL_q rfl (QV_assign rfl) ?_
              refine TL_nil ?_
              refine W_ret (by kernel_rfl) ?_
              first | exact ⟨_, rfl, by assumption, false, rfl, fun h => by cases h⟩ | exact ⟨_, rfl, by assumption, true, rfl, fun _ => hall⟩
            ·
              have h63 := of_decide_eq_false hb63
              refine TL_gq rfl rfl rfl rfl (QV_field rfl fld33_2) ?_
              refine TL_gq rfl rfl rfl rfl (QV_load rfl one27 (by assumption)) ?_
              refine TL_gq rfl rfl rfl rfl (QV_move rfl) ?_
              refine TL_gq rfl rfl rfl rfl (QV_idxO rfl rfl el27 sz3 (hjl)) ?_
              refine TL_gq rfl rfl rfl rfl (QV_load rfl one3 (cel_fr (hacel j hjl) hf3 (fun h => h))) ?_
              refine TL_gq rfl rfl rfl rfl (QV_move rfl) ?_
              refine TL_gq rfl rfl rfl rfl (QV_geq rfl rfl) ?_
              refine TL_q rfl (QV_pickF rfl rfl) ?_
              refine TL_nil ?_
              refine W_cond (c := Operand.tmp 71) (by kernel_rfl) rfl (fun hc71 => ?_) (fun hc71 => ?_)
              ·
                refine W_seq (by kernel_rfl) ?_
                -- R16
                refine W_reg (l := [⟨some 4, Op.assign (Operand.const (Value.bool false)), 4, none⟩]) (by kernel_rfl) (by kernel_rfl) ?_
                refine TL_q rfl (QV_assign rfl) ?_
                refine TL_nil ?_
                refine W_ret (by kernel_rfl) ?_
                first | exact ⟨_, rfl, by assumption, false, rfl, fun h => by cases h⟩ | exact ⟨_, rfl, by assumption, true, rfl, fun _ => hall⟩
              ·
                have h71 := of_decide_eq_false hc71
                refine W_skip (by kernel_rfl) ?_
                -- R14
                refine W_reg (l := [⟨some 55, Op.move (Operand.tmp 8), 3, none⟩, ⟨some 56, Op.binOp BinOp.add 3 (Operand.tmp 55) (Operand.const (Value.int IntKind.i64 1)) 3, 3, none⟩, ⟨some 8, Op.assign (Operand.tmp 56), 3, none⟩]) (by kernel_rfl) (by kernel_rfl) ?_
                refine TL_q rfl (QV_move rfl) ?_
                refine TL_q rfl (QV_add (r := ((j + 1 : Nat) : Int)) rfl rfl (by omega) (by omega) (by omega)) ?_
                refine TL_q rfl (QV_assign rfl) ?_
                refine TL_nil ?_
                exact ⟨j + 1, ⟨by omega, rfl, all_succ hinu ⟨by omega, by omega⟩⟩, ⟨rfl, rfl, rfl, rfl, rfl, trivial⟩, by omega⟩
          ·
            have hunl1 : j = (rs.getD k rd0).unl.length := by have := of_decide_eq_false hc54; omega
            subst hunl1
            refine W_exit 4 (by kernel_rfl) ?_
            show T Try.prog 72 (C Try.f12 [1, 1, 0, 0, 1, 0, 1]) _ _ _
            -- R3
            refine W_reg (l := [⟨some 13, Op.move (Operand.tmp 5), 3, none⟩, ⟨some 14, Op.binOp BinOp.add 3 (Operand.tmp 13) (Operand.const (Value.int IntKind.i64 1)) 3, 3, none⟩, ⟨some 5, Op.assign (Operand.tmp 14), 3, none⟩]) (by kernel_rfl) (by kernel_rfl) ?_
            refine TL_q rfl (QV_move rfl) ?_
            refine TL_q rfl (QV_add (r := ((k + 1 : Nat) : Int)) rfl rfl (by omega) (by omega) (by omega)) ?_
            refine TL_q rfl (QV_assign rfl) ?_
            refine TL_nil ?_
            exact ⟨k + 1, ⟨by omega, hf3, all_succ hin ⟨by omega, by omega, hina, hinu⟩⟩, ⟨rfl, rfl, rfl, trivial⟩, by omega⟩
  ·
    have hge : k = rs.length := by have := of_decide_eq_false hc12; omega
    subst hge
    have hall := hin
    refine W_exit 0 (by kernel_rfl) ?_
    show T Try.prog 72 (C Try.f12 [1, 1]) _ _ _
    refine W_seq (by kernel_rfl) ?_
    -- R17
    refine W_reg (l := [⟨some 4, Op.assign (Operand.const (Value.bool true)), 4, none⟩]) (by kernel_rfl) (by kernel_rfl) ?_
    refine TL_q rfl (QV_assign rfl) ?_
    refine TL_nil ?_
    refine W_ret (by kernel_rfl) ?_
    first | exact ⟨_, rfl, by assumption, false, rfl, fun h => by cases h⟩ | exact ⟨_, rfl, by assumption, true, rfl, fun _ => hall⟩

end Go.Proofs.Qxb6600121a
