/-
   Walks written by program (wip/gen).
-/
import Derived.Test.Qxb6600121aFin
import Derived.Test.Qxb6600121aW23
import Derived.Test.Qxb6600121aW12
import Derived.Test.Qxb6600121aW13
import Derived.Test.Qxb6600121aW14
import Derived.Test.Qxb6600121aW17
namespace Go.Proofs.Qxb6600121a
open Go Go.Proofs
set_option linter.unusedVariables false
set_option linter.unusedSimpArgs false

set_option maxRecDepth 10000 in
set_option maxHeartbeats 1000000 in
theorem followLaw (w : World) (B : Nat → Prop) (n : Int) (v : Value) (rs : List RD) (hv : RulesAt w.heap B v rs) :
    CallsS Try.prog 4 #[.int .i64 n, v] w (fun r w' => r = .bool true ∧ Fr (fun _ => False) w w') := by
  refine W_fun [4] Try.func4 rfl Try.ntmps4 Try.results4 (Nat.le_of_ble_eq_true rfl) ?_
  refine W_seq (by kernel_rfl) ?_
  -- R0
  refine W_reg (l := [⟨some 4, Op.assign (Operand.const (Value.bool false)), 4, none⟩]) (by kernel_rfl) (by kernel_rfl) ?_
  refine TL_q rfl (QV_assign rfl) ?_
  refine TL_nil ?_
  refine W_seq (by kernel_rfl) ?_
  refine W_seq (by kernel_rfl) ?_
  -- R1
  refine W_reg (l := [⟨some 15, Op.move (Operand.tmp 0), 3, none⟩, ⟨some 16, Op.move (Operand.tmp 1), 22, none⟩, ⟨some 17, Op.call { callee := Callee.value (Operand.func 17), args := #[Operand.tmp 15, Operand.tmp 16], argTypes := #[3, 22] }, 4, none⟩, ⟨some 18, Op.unOp UnOp.not 4 (Operand.tmp 17), 4, none⟩]) (by kernel_rfl) (by kernel_rfl) ?_
  refine TL_q rfl (QV_move rfl) ?_
  refine TL_q rfl (QV_move rfl) ?_
  refine TL_e (EV_callD rfl rfl rfl call17 (bytes17 w B n v rs hv) fun r w1 hr => ?_)
  obtain ⟨hw1, b1, rfl, hb1⟩ := hr
  rw [hw1]
  clear hw1
  refine TL_q rfl (QV_not rfl) ?_
  refine TL_nil ?_
  refine W_cond (c := Operand.tmp 18) (by kernel_rfl) rfl (fun hc18 => ?_) (fun hc18 => ?_)
  ·
    refine W_seq (by kernel_rfl) ?_
    -- R2
    refine W_reg (l := [⟨some 4, Op.assign (Operand.const (Value.bool true)), 4, none⟩]) (by kernel_rfl) (by kernel_rfl) ?_
    refine TL_q rfl (QV_assign rfl) ?_
    refine TL_nil ?_
    refine W_ret (by kernel_rfl) ?_
    first | exact ⟨_, rfl, rfl, Fr.refl _ _⟩ | exact ⟨_, rfl, rfl, f3⟩ | exact ⟨_, rfl, rfl, (((((f3.trans f4).trans f5).trans f6).trans f7).trans f8)⟩
  ·
    have hb1 := hb1 (by cases b1 <;> first | rfl | cases hc18)
    refine W_skip (by kernel_rfl) ?_
    refine W_seq (by kernel_rfl) ?_
    refine W_seq (by kernel_rfl) ?_
    -- R3
    refine W_reg (l := [⟨some 19, Op.move (Operand.tmp 0), 3, none⟩, ⟨some 20, Op.move (Operand.tmp 1), 22, none⟩, ⟨some 21, Op.call { callee := Callee.value (Operand.func 11), args := #[Operand.tmp 19, Operand.tmp 20], argTypes := #[3, 22] }, 4, none⟩, ⟨some 22, Op.unOp UnOp.not 4 (Operand.tmp 21), 4, none⟩]) (by kernel_rfl) (by kernel_rfl) ?_
    refine TL_q rfl (QV_move rfl) ?_
    refine TL_q rfl (QV_move rfl) ?_
    refine TL_e (EV_callD rfl rfl rfl call11 (sized w B n v rs hv) fun r w2 hr => ?_)
    obtain ⟨hw2, b2, rfl, hb2⟩ := hr
    rw [hw2]
    clear hw2
    refine TL_q rfl (QV_not rfl) ?_
    refine TL_nil ?_
    refine W_cond (c := Operand.tmp 22) (by kernel_rfl) rfl (fun hc22 => ?_) (fun hc22 => ?_)
    ·
      refine W_seq (by kernel_rfl) ?_
      -- R4
      refine W_reg (l := [⟨some 4, Op.assign (Operand.const (Value.bool true)), 4, none⟩]) (by kernel_rfl) (by kernel_rfl) ?_
      refine TL_q rfl (QV_assign rfl) ?_
      refine TL_nil ?_
      refine W_ret (by kernel_rfl) ?_
      first | exact ⟨_, rfl, rfl, Fr.refl _ _⟩ | exact ⟨_, rfl, rfl, f3⟩ | exact ⟨_, rfl, rfl, (((((f3.trans f4).trans f5).trans f6).trans f7).trans f8)⟩
    ·
      have hb2 := hb2 (by cases b2 <;> first | rfl | cases hc22)
      obtain ⟨n', rfl⟩ := Int.eq_ofNat_of_zero_le hb2.1
      refine W_skip (by kernel_rfl) ?_
      refine W_seq (by kernel_rfl) ?_
      refine W_seq (by kernel_rfl) ?_
      -- R5
      refine W_reg (l := [⟨some 23, Op.move (Operand.tmp 0), 3, none⟩, ⟨some 24, Op.move (Operand.tmp 1), 22, none⟩, ⟨some 25, Op.call { callee := Callee.value (Operand.func 12), args := #[Operand.tmp 23, Operand.tmp 24], argTypes := #[3, 22] }, 4, none⟩, ⟨some 26, Op.unOp UnOp.not 4 (Operand.tmp 25), 4, none⟩]) (by kernel_rfl) (by kernel_rfl) ?_
      refine TL_q rfl (QV_move rfl) ?_
      refine TL_q rfl (QV_move rfl) ?_
      refine TL_e (EV_callD rfl rfl rfl call12 (inRange w B n' v rs hv hb1) fun r w3 hr => ?_)
      obtain ⟨f3, b3, rfl, hb3⟩ := hr
      refine TL_q rfl (QV_not rfl) ?_
      refine TL_nil ?_
      refine W_cond (c := Operand.tmp 26) (by kernel_rfl) rfl (fun hc26 => ?_) (fun hc26 => ?_)
      ·
        refine W_seq (by kernel_rfl) ?_
        -- R6
        refine W_reg (l := [⟨some 4, Op.assign (Operand.const (Value.bool true)), 4, none⟩]) (by kernel_rfl) (by kernel_rfl) ?_
        refine TL_q rfl (QV_assign rfl) ?_
        refine TL_nil ?_
        refine W_ret (by kernel_rfl) ?_
        first | exact ⟨_, rfl, rfl, Fr.refl _ _⟩ | exact ⟨_, rfl, rfl, f3⟩ | exact ⟨_, rfl, rfl, (((((f3.trans f4).trans f5).trans f6).trans f7).trans f8)⟩
      ·
        have hb3 := hb3 (by cases b3 <;> first | rfl | cases hc26)
        obtain ⟨D, rfl, hok⟩ := plain_of hb3
        rw [List.length_map] at hb1
        refine W_skip (by kernel_rfl) ?_
        refine W_seq (by kernel_rfl) ?_
        -- R7
        refine W_reg (l := [⟨some 27, Op.move (Operand.tmp 1), 22, none⟩, ⟨some 28, Op.call { callee := Callee.value (Operand.func 13), args := #[Operand.tmp 27], argTypes := #[22] }, 22, none⟩, ⟨some 1, Op.assign (Operand.tmp 28), 22, none⟩]) (by kernel_rfl) (by kernel_rfl) ?_
        refine TL_q rfl (QV_move rfl) ?_
        refine TL_e (EV_callD rfl rfl rfl call13 (cloneRules w3 B v _ (hv.fr f3 (fun _ _ h => h)) (by rw [List.length_map]; exact hb1)) fun r w4 hr => ?_)
        obtain ⟨f4, hcl⟩ := hr
        refine TL_q rfl (QV_assign rfl) ?_
        refine TL_nil ?_
        refine W_seq (by kernel_rfl) ?_
        -- R8
        refine W_reg (l := [⟨some 29, Op.move (Operand.tmp 0), 3, none⟩, ⟨some 30, Op.move (Operand.tmp 1), 22, none⟩, ⟨some 31, Op.call { callee := Callee.value (Operand.func 14), args := #[Operand.tmp 29, Operand.tmp 30], argTypes := #[3, 22] }, 25, none⟩, ⟨some 5, Op.assign (Operand.tmp 31), 25, none⟩]) (by kernel_rfl) (by kernel_rfl) ?_
        refine TL_q rfl (QV_move rfl) ?_
        refine TL_q rfl (QV_move rfl) ?_
        refine TL_e (EV_callD rfl rfl rfl call14 (newSolver w4 _ (fun b hb => hb.2) n' r D hcl hok hb1 (by omega)) fun r2 w5 hr => ?_)
        obtain ⟨L, rfl, f5, hL1, hL2, hsol⟩ := hr
        refine TL_q rfl (QV_assign rfl) ?_
        refine TL_nil ?_
        refine W_seq (by kernel_rfl) ?_
        -- R9
        refine W_reg (l := [⟨some 33, Op.move (Operand.tmp 5), 25, none⟩, ⟨some 34, Op.call { callee := Callee.value (Operand.func 15), args := #[Operand.tmp 33], argTypes := #[25] }, 28, none⟩, ⟨some 32, Op.move (Operand.tmp 34), 28, none⟩, ⟨some 35, Op.extract (Operand.tmp 32) 0, 27, none⟩, ⟨some 36, Op.extract (Operand.tmp 32) 1, 27, none⟩, ⟨some 6, Op.assign (Operand.tmp 35), 27, none⟩, ⟨some 7, Op.assign (Operand.tmp 36), 27, none⟩]) (by kernel_rfl) (by kernel_rfl) ?_
        refine TL_q rfl (QV_move rfl) ?_
        refine TL_e (EV_callD rfl rfl rfl call15 (compsF w5 L n' (by omega) D hok hb1 hsol.stat hsol.c0 hsol.c1) fun r3 w6 hr => ?_)
        obtain ⟨av, ev, rfl, atoms, ends, hfin, f6, hra, hre, hga, hge6⟩ := hr
        have hpart := hfin.part
        refine TL_q rfl (QV_move rfl) ?_
        refine TL_q rfl (QV_extract rfl rfl) ?_
        refine TL_q rfl (QV_extract rfl rfl) ?_
        refine TL_q rfl (QV_assign rfl) ?_
        refine TL_q rfl (QV_assign rfl) ?_
        refine TL_nil ?_
        refine W_seq (by kernel_rfl) ?_
        refine W_seq (by kernel_rfl) ?_
        -- R10
        refine W_reg (l := [⟨some 37, Op.move (Operand.tmp 0), 3, none⟩, ⟨some 38, Op.move (Operand.tmp 6), 27, none⟩, ⟨some 39, Op.move (Operand.tmp 7), 27, none⟩, ⟨some 40, Op.call { callee := Callee.value (Operand.func 16), args := #[Operand.tmp 37, Operand.tmp 38, Operand.tmp 39], argTypes := #[3, 27, 27] }, 4, none⟩, ⟨some 41, Op.unOp UnOp.not 4 (Operand.tmp 40), 4, none⟩]) (by kernel_rfl) (by kernel_rfl) ?_
        refine TL_q rfl (QV_move rfl) ?_
        refine TL_q rfl (QV_move rfl) ?_
        refine TL_q rfl (QV_move rfl) ?_
        refine TL_e (EV_callD rfl rfl rfl call16 (partitionWalk w6 (fun _ => True) n' (by omega) av ev atoms ends (hra.intsAt (fun _ _ => trivial)) (hre.intsAt (fun _ _ => trivial)) hpart (by have := hfin.ne; omega)) fun r4 w7 hr => ?_)
        obtain ⟨rfl, f7⟩ := hr
        refine TL_q rfl (QV_not rfl) ?_
        refine TL_nil ?_
        refine W_cond (c := Operand.tmp 41) (by kernel_rfl) rfl (fun hc41 => ?_) (fun hc41 => ?_)
        ·
          cases hc41
        ·
          refine W_skip (by kernel_rfl) ?_
          refine W_seq (by kernel_rfl) ?_
          -- R12
          refine W_reg (l := [⟨some 42, Op.move (Operand.tmp 0), 3, none⟩, ⟨some 43, Op.move (Operand.tmp 6), 27, none⟩, ⟨some 44, Op.move (Operand.tmp 7), 27, none⟩, ⟨some 45, Op.call { callee := Callee.value (Operand.func 18), args := #[Operand.tmp 42, Operand.tmp 43, Operand.tmp 44], argTypes := #[3, 27, 27] }, 27, none⟩, ⟨some 8, Op.assign (Operand.tmp 45), 27, none⟩]) (by kernel_rfl) (by kernel_rfl) ?_
          refine TL_q rfl (QV_move rfl) ?_
          refine TL_q rfl (QV_move rfl) ?_
          refine TL_q rfl (QV_move rfl) ?_
          refine TL_e (EV_callD rfl rfl rfl call18 (compOf w7 (fun _ => True) n' (by omega) av ev atoms ends ((hra.fr f7 (fun _ _ h => h)).intsAt (fun _ _ => trivial)) ((hre.fr f7 (fun _ _ h => h)).intsAt (fun _ _ => trivial)) hpart (by have := hfin.ne; omega)) fun r5 w8 hr => ?_)
          obtain ⟨f8, cs, hcsl, rfl, hcsb, hcs⟩ := hr
          refine TL_q rfl (QV_assign rfl) ?_
          refine TL_nil ?_
          have hrules := (((hcl.fr f5 (fun _ _ h => h)).fr f6 (fun _ _ h => h)).fr f7 (fun _ _ h => h)).fr f8 (fun _ _ h => h)
          obtain ⟨a, c, rfl, hcap, hrul⟩ := hrules.nat
          refine W_seq (by kernel_rfl) ?_
          refine W_seq (by kernel_rfl) ?_
          -- R13
          refine W_reg (l := [⟨some 9, Op.assign (Operand.const (Value.int IntKind.i64 0)), 3, none⟩]) (by kernel_rfl) (by kernel_rfl) ?_
          refine TL_q rfl (QV_assign rfl) ?_
          refine TL_nil ?_
          refine W_block 0 (by kernel_rfl) ?_
          refine W_loop (fun (k : Nat) w9 => k ≤ D.length ∧ w8 = w9) (fun k => [(1, .slice a D.length c), (8, .slice (some ⟨w7.heap.size, 0, none⟩) n' n'), (9, .int .i64 (k : Int))]) (fun k => D.length - k) 0 (by kernel_rfl) ?_ ?_ ?_
          · exact ⟨Nat.zero_le _, rfl⟩
          · exact ⟨rfl, rfl, rfl, trivial⟩
          rintro k w9 ⟨hk, rfl⟩
          refine W_seq (by kernel_rfl) ?_
          refine W_seq (by kernel_rfl) ?_
          -- R14
          refine W_reg (l := [⟨some 46, Op.move (Operand.tmp 9), 3, none⟩, ⟨some 47, Op.move (Operand.tmp 1), 22, none⟩, ⟨some 48, Op.call { callee := Callee.builtin Builtin.len, args := #[Operand.tmp 47], argTypes := #[22] }, 3, none⟩, ⟨some 49, Op.binOp BinOp.lss 3 (Operand.tmp 46) (Operand.tmp 48) 3, 4, none⟩]) (by kernel_rfl) (by kernel_rfl) ?_
          refine TL_q rfl (QV_move rfl) ?_
          refine TL_q rfl (QV_move rfl) ?_
          refine TL_q rfl (QV_len rfl el22) ?_
          refine TL_q rfl (QV_lss rfl rfl) ?_
          refine TL_nil ?_
          refine W_cond (c := Operand.tmp 49) (by kernel_rfl) rfl (fun hc49 => ?_) (fun hc49 => ?_)
          ·
            have hlt : k < D.length := by have := of_decide_eq_true hc49; omega
            obtain ⟨b, o, rfl, hbB, hcel⟩ := hrul (by omega)
            obtain ⟨g1, va, vu, g2, g3, ga, gu⟩ := hcel k hlt
            obtain ⟨aa, ca, rfl, hca, hall⟩ := ga.nat
            obtain ⟨au, cu, rfl, hcu, hunl⟩ := gu.nat
            have hoks := hok _ (getD_mem rl0 hlt)
            have htd := totD D k hlt
            have htl := tot_take_le (D.map Rl.rd) (k + 1)
            have hbel : ∀ d ∈ body D k, cs.getD d 0 ≤ cs.getD (D.getD k rl0).head 0 := fun d hd => hfin.below hcs hoks.1 ⟨k, hlt, rfl, hd⟩
            refine W_skip (by kernel_rfl) ?_
            refine W_seq (by kernel_rfl) ?_
            refine W_block 1 (by kernel_rfl) ?_
            refine W_seq (by kernel_rfl) ?_
            -- R16
            refine W_reg (l := [⟨some 52, Op.move (Operand.tmp 8), 27, none⟩, ⟨some 53, Op.move (Operand.tmp 1), 22, none⟩, ⟨some 54, Op.move (Operand.tmp 9), 3, none⟩, ⟨some 55, Op.indexAddr 22 (Operand.tmp 53) (Operand.tmp 54), 0, none⟩, ⟨some 56, Op.fieldAddr 33 (Operand.tmp 55) 0, 0, none⟩, ⟨some 57, Op.load 3 (Operand.tmp 56), 3, none⟩, ⟨some 58, Op.indexAddr 27 (Operand.tmp 52) (Operand.tmp 57), 0, none⟩, ⟨some 59, Op.load 3 (Operand.tmp 58), 3, none⟩, ⟨some 10, Op.assign (Operand.tmp 59), 3, none⟩]) (by kernel_rfl) (by kernel_rfl) ?_
            refine TL_q rfl (QV_move rfl) ?_
            refine TL_q rfl (QV_move rfl) ?_
            refine TL_q rfl (QV_move rfl) ?_
            refine TL_q rfl (QV_idx rfl rfl el22 sz33 (hlt)) ?_
            refine TL_q rfl (QV_field0 rfl fld33_0) ?_
            refine TL_q rfl (QV_load rfl one3 (g1)) ?_
            refine TL_q rfl (QV_idx1 rfl rfl el27 sz3 (hoks.1)) ?_
            refine TL_q rfl (QV_load rfl one3 (hcsb.cN (by rw [hcsl]; exact hoks.1))) ?_
            refine TL_q rfl (QV_assign rfl) ?_
            refine TL_nil ?_
            refine W_seq (by kernel_rfl) ?_
            refine W_seq (by kernel_rfl) ?_
            -- R17
            refine W_reg (l := [⟨some 60, Op.move (Operand.tmp 1), 22, none⟩, ⟨some 61, Op.move (Operand.tmp 9), 3, none⟩, ⟨some 62, Op.indexAddr 22 (Operand.tmp 60) (Operand.tmp 61), 0, none⟩, ⟨some 63, Op.fieldAddr 33 (Operand.tmp 62) 1, 0, none⟩, ⟨some 64, Op.load 27 (Operand.tmp 63), 27, none⟩, ⟨some 65, Op.call { callee := Callee.builtin Builtin.len, args := #[Operand.tmp 64], argTypes := #[27] }, 3, none⟩, ⟨some 66, Op.move (Operand.const (Value.int IntKind.i64 0)), 3, none⟩]) (by kernel_rfl) (by kernel_rfl) ?_
            refine TL_q rfl (QV_move rfl) ?_
            refine TL_q rfl (QV_move rfl) ?_
            refine TL_q rfl (QV_idx rfl rfl el22 sz33 (hlt)) ?_
            refine TL_q rfl (QV_field rfl fld33_1) ?_
            refine TL_q rfl (QV_load rfl one27 (g2)) ?_
            refine TL_q rfl (QV_len rfl el27) ?_
            refine TL_q rfl (QV_move rfl) ?_
            refine TL_nil ?_
            refine W_block 2 (by kernel_rfl) ?_
            refine W_loop (fun (j : Nat) w9 => j ≤ (D.getD k rl0).all.length ∧ w8 = w9) (fun j => [(1, .slice (some ⟨b, o, none⟩) D.length c), (8, .slice (some ⟨w7.heap.size, 0, none⟩) n' n'), (9, .int .i64 (k : Int)), (10, .int .i64 ((cs.getD (D.getD k rl0).head 0 : Nat) : Int)), (64, .slice aa (D.getD k rl0).all.length ca), (65, .int .i64 ((D.getD k rl0).all.length : Nat)), (66, .int .i64 (j : Int))]) (fun j => (D.getD k rl0).all.length - j) 0 (by kernel_rfl) ?_ ?_ ?_
            · exact ⟨Nat.zero_le _, rfl⟩
            · exact ⟨rfl, rfl, rfl, rfl, rfl, rfl, rfl, trivial⟩
            rintro j w9 ⟨hj, rfl⟩
            refine W_seq (by kernel_rfl) ?_
            -- R18
            refine W_reg (l := [⟨some 67, Op.binOp BinOp.lss 3 (Operand.tmp 66) (Operand.tmp 65) 3, 0, none⟩]) (by kernel_rfl) (by kernel_rfl) ?_
            refine TL_q rfl (QV_lss rfl rfl) ?_
            refine TL_nil ?_
            refine W_seq (by kernel_rfl) ?_
            refine W_cond (c := Operand.tmp 67) (by kernel_rfl) rfl (fun hc67 => ?_) (fun hc67 => ?_)
            ·
              have hjl : j < (D.getD k rl0).all.length := by have := of_decide_eq_true hc67; omega
              obtain ⟨b2, o2, rfl, hb2B, hcel2⟩ := hall (by omega)
              have hdm := getD_mem 0 hjl
              have hdn := hoks.2.1 _ hdm
              have hbd := hbel _ (List.mem_append_left _ hdm)
              refine W_skip (by kernel_rfl) ?_
              refine W_seq (by kernel_rfl) ?_
              refine W_block 3 (by kernel_rfl) ?_
              refine W_seq (by kernel_rfl) ?_
              -- R19
              refine W_reg (l := [⟨some 68, Op.indexAddr 27 (Operand.tmp 64) (Operand.tmp 66), 0, none⟩, ⟨some 69, Op.load 3 (Operand.tmp 68), 3, none⟩, ⟨some 12, Op.assign (Operand.tmp 69), 3, none⟩]) (by kernel_rfl) (by kernel_rfl) ?_
              refine TL_q rfl (QV_idxO rfl rfl el27 sz3 (hjl)) ?_
              refine TL_q rfl (QV_load rfl one3 (hcel2 j hjl)) ?_
              refine TL_q rfl (QV_assign rfl) ?_
              refine TL_nil ?_
              refine W_seq (by kernel_rfl) ?_
              -- R20
              refine W_reg (l := [⟨some 70, Op.move (Operand.tmp 8), 27, none⟩, ⟨some 71, Op.move (Operand.tmp 12), 3, none⟩, ⟨some 72, Op.indexAddr 27 (Operand.tmp 70) (Operand.tmp 71), 0, none⟩, ⟨some 73, Op.load 3 (Operand.tmp 72), 3, none⟩, ⟨some 74, Op.move (Operand.tmp 10), 3, none⟩, ⟨some 75, Op.binOp BinOp.gtr 3 (Operand.tmp 73) (Operand.tmp 74) 3, 4, none⟩]) (by kernel_rfl) (by kernel_rfl) ?_
              refine TL_q rfl (QV_move rfl) ?_
              refine TL_q rfl (QV_move rfl) ?_
              refine TL_q rfl (QV_idx1 rfl rfl el27 sz3 (hdn)) ?_
              refine TL_q rfl (QV_load rfl one3 (hcsb.cN (by rw [hcsl]; exact hdn))) ?_
              refine TL_q rfl (QV_move rfl) ?_
              refine TL_q rfl (QV_gtr rfl rfl) ?_
              refine TL_nil ?_
              refine W_cond (c := Operand.tmp 75) (by kernel_rfl) rfl (fun hc75 => ?_) (fun hc75 => ?_)
              ·
                exact absurd (of_decide_eq_true hc75) (by omega)
              ·
                refine W_skip (by kernel_rfl) ?_
                -- R22
                refine W_reg (l := [⟨some 76, Op.binOp BinOp.add 3 (Operand.tmp 66) (Operand.const (Value.int IntKind.i64 1)) 3, 3, none⟩, ⟨some 66, Op.move (Operand.tmp 76), 3, none⟩]) (by kernel_rfl) (by kernel_rfl) ?_
                refine TL_q rfl (QV_add (r := ((j + 1 : Nat) : Int)) rfl rfl (by omega) (by omega) (by omega)) ?_
                refine TL_q rfl (QV_move rfl) ?_
                refine TL_nil ?_
                exact ⟨j + 1, ⟨by omega, rfl⟩, ⟨rfl, rfl, rfl, rfl, rfl, rfl, rfl, trivial⟩, by omega⟩
            ·
              clear hj
              refine W_exit 2 (by kernel_rfl) ?_
              show T Try.prog 94 (C Try.f4 [1, 1, 0, 0, 1, 0, 0, 1, 0, 1, 1, 1, 1, 1, 1, 1, 1, 1]) _ _ _
              refine W_seq (by kernel_rfl) ?_
              -- R23
              refine W_reg (l := [⟨some 77, Op.move (Operand.tmp 1), 22, none⟩, ⟨some 78, Op.move (Operand.tmp 9), 3, none⟩, ⟨some 79, Op.indexAddr 22 (Operand.tmp 77) (Operand.tmp 78), 0, none⟩, ⟨some 80, Op.fieldAddr 33 (Operand.tmp 79) 2, 0, none⟩, ⟨some 81, Op.load 27 (Operand.tmp 80), 27, none⟩, ⟨some 82, Op.call { callee := Callee.builtin Builtin.len, args := #[Operand.tmp 81], argTypes := #[27] }, 3, none⟩, ⟨some 83, Op.move (Operand.const (Value.int IntKind.i64 0)), 3, none⟩]) (by kernel_rfl) (by kernel_rfl) ?_
              refine TL_q rfl (QV_move rfl) ?_
              refine TL_q rfl (QV_move rfl) ?_
              refine TL_q rfl (QV_idx rfl rfl el22 sz33 (hlt)) ?_
              refine TL_q rfl (QV_field rfl fld33_2) ?_
              refine TL_q rfl (QV_load rfl one27 (g3)) ?_
              refine TL_q rfl (QV_len rfl el27) ?_
              refine TL_q rfl (QV_move rfl) ?_
              refine TL_nil ?_
              refine W_block 4 (by kernel_rfl) ?_
              refine W_loop (fun (j : Nat) w9 => j ≤ (D.getD k rl0).unl.length ∧ w8 = w9) (fun j => [(1, .slice (some ⟨b, o, none⟩) D.length c), (8, .slice (some ⟨w7.heap.size, 0, none⟩) n' n'), (9, .int .i64 (k : Int)), (10, .int .i64 ((cs.getD (D.getD k rl0).head 0 : Nat) : Int)), (81, .slice au (D.getD k rl0).unl.length cu), (82, .int .i64 ((D.getD k rl0).unl.length : Nat)), (83, .int .i64 (j : Int))]) (fun j => (D.getD k rl0).unl.length - j) 0 (by kernel_rfl) ?_ ?_ ?_
              · exact ⟨Nat.zero_le _, rfl⟩
              · exact ⟨rfl, rfl, rfl, rfl, rfl, rfl, rfl, trivial⟩
              rintro j w9 ⟨hj, rfl⟩
              refine W_seq (by kernel_rfl) ?_
              -- R24
              refine W_reg (l := [⟨some 84, Op.binOp BinOp.lss 3 (Operand.tmp 83) (Operand.tmp 82) 3, 0, none⟩]) (by kernel_rfl) (by kernel_rfl) ?_
              refine TL_q rfl (QV_lss rfl rfl) ?_
              refine TL_nil ?_
              refine W_seq (by kernel_rfl) ?_
              refine W_cond (c := Operand.tmp 84) (by kernel_rfl) rfl (fun hc84 => ?_) (fun hc84 => ?_)
              ·
                have hjl : j < (D.getD k rl0).unl.length := by have := of_decide_eq_true hc84; omega
                obtain ⟨b2, o2, rfl, hb2B, hcel2⟩ := hunl (by omega)
                have hdm := getD_mem 0 hjl
                have hdn := hoks.2.2 _ hdm
                have hbd := hbel _ (List.mem_append_right _ hdm)
                refine W_skip (by kernel_rfl) ?_
                refine W_seq (by kernel_rfl) ?_
                refine W_block 5 (by kernel_rfl) ?_
                refine W_seq (by kernel_rfl) ?_
                -- R25
                refine W_reg (l := [⟨some 85, Op.indexAddr 27 (Operand.tmp 81) (Operand.tmp 83), 0, none⟩, ⟨some 86, Op.load 3 (Operand.tmp 85), 3, none⟩, ⟨some 14, Op.assign (Operand.tmp 86), 3, none⟩]) (by kernel_rfl) (by kernel_rfl) ?_
                refine TL_q rfl (QV_idxO rfl rfl el27 sz3 (hjl)) ?_
                refine TL_q rfl (QV_load rfl one3 (hcel2 j hjl)) ?_
                refine TL_q rfl (QV_assign rfl) ?_
                refine TL_nil ?_
                refine W_seq (by kernel_rfl) ?_
                -- R26
                refine W_reg (l := [⟨some 87, Op.move (Operand.tmp 8), 27, none⟩, ⟨some 88, Op.move (Operand.tmp 14), 3, none⟩, ⟨some 89, Op.indexAddr 27 (Operand.tmp 87) (Operand.tmp 88), 0, none⟩, ⟨some 90, Op.load 3 (Operand.tmp 89), 3, none⟩, ⟨some 91, Op.move (Operand.tmp 10), 3, none⟩, ⟨some 92, Op.binOp BinOp.gtr 3 (Operand.tmp 90) (Operand.tmp 91) 3, 4, none⟩]) (by kernel_rfl) (by kernel_rfl) ?_
                refine TL_q rfl (QV_move rfl) ?_
                refine TL_q rfl (QV_move rfl) ?_
                refine TL_q rfl (QV_idx1 rfl rfl el27 sz3 (hdn)) ?_
                refine TL_q rfl (QV_load rfl one3 (hcsb.cN (by rw [hcsl]; exact hdn))) ?_
                refine TL_q rfl (QV_move rfl) ?_
                refine TL_q rfl (QV_gtr rfl rfl) ?_
                refine TL_nil ?_
                refine W_cond (c := Operand.tmp 92) (by kernel_rfl) rfl (fun hc92 => ?_) (fun hc92 => ?_)
                ·
                  exact absurd (of_decide_eq_true hc92) (by omega)
                ·
                  refine W_skip (by kernel_rfl) ?_
                  -- R28
                  refine W_reg (l := [⟨some 93, Op.binOp BinOp.add 3 (Operand.tmp 83) (Operand.const (Value.int IntKind.i64 1)) 3, 3, none⟩, ⟨some 83, Op.move (Operand.tmp 93), 3, none⟩]) (by kernel_rfl) (by kernel_rfl) ?_
                  refine TL_q rfl (QV_add (r := ((j + 1 : Nat) : Int)) rfl rfl (by omega) (by omega) (by omega)) ?_
                  refine TL_q rfl (QV_move rfl) ?_
                  refine TL_nil ?_
                  exact ⟨j + 1, ⟨by omega, rfl⟩, ⟨rfl, rfl, rfl, rfl, rfl, rfl, rfl, trivial⟩, by omega⟩
              ·
                refine W_exit 4 (by kernel_rfl) ?_
                show T Try.prog 94 (C Try.f4 [1, 1, 0, 0, 1, 0, 1, 1, 1, 1, 1, 1, 1, 1, 1]) _ _ _
                -- R15
                refine W_reg (l := [⟨some 50, Op.move (Operand.tmp 9), 3, none⟩, ⟨some 51, Op.binOp BinOp.add 3 (Operand.tmp 50) (Operand.const (Value.int IntKind.i64 1)) 3, 3, none⟩, ⟨some 9, Op.assign (Operand.tmp 51), 3, none⟩]) (by kernel_rfl) (by kernel_rfl) ?_
                refine TL_q rfl (QV_move rfl) ?_
                refine TL_q rfl (QV_add (r := ((k + 1 : Nat) : Int)) rfl rfl (by omega) (by omega) (by omega)) ?_
                refine TL_q rfl (QV_assign rfl) ?_
                refine TL_nil ?_
                exact ⟨k + 1, ⟨by omega, rfl⟩, ⟨rfl, rfl, rfl, trivial⟩, by omega⟩
          ·
            have hge : k = D.length := by have := of_decide_eq_false hc49; omega
            refine W_exit 0 (by kernel_rfl) ?_
            show T Try.prog 94 (C Try.f4 [1, 1, 1, 1, 1, 1, 1, 1, 1, 1]) _ _ _
            refine W_seq (by kernel_rfl) ?_
            -- R29
            refine W_reg (l := [⟨some 4, Op.assign (Operand.const (Value.bool true)), 4, none⟩]) (by kernel_rfl) (by kernel_rfl) ?_
            refine TL_q rfl (QV_assign rfl) ?_
            refine TL_nil ?_
            refine W_ret (by kernel_rfl) ?_
            first | exact ⟨_, rfl, rfl, Fr.refl _ _⟩ | exact ⟨_, rfl, rfl, f3⟩ | exact ⟨_, rfl, rfl, (((((f3.trans f4).trans f5).trans f6).trans f7).trans f8)⟩

end Go.Proofs.Qxb6600121a
