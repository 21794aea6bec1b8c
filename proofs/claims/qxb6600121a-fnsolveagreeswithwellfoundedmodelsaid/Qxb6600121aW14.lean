/-
   Walks written by program (wip/gen).
-/
import Derived.Test.Qxb6600121aSol
import Derived.Test.Qxb6600121aW20
import Derived.Test.Qxb6600121aW35
namespace Go.Proofs.Qxb6600121a
open Go Go.Proofs
set_option linter.unusedVariables false
set_option linter.unusedSimpArgs false

set_option maxRecDepth 10000 in
set_option maxHeartbeats 400000 in
theorem newSolver (w : World) (B : Nat → Prop) (hB : ∀ b, B b → b < w.heap.size) (n : Nat) (v : Value) (D : List Rl) (hv : RulesAt w.heap B v (D.map Rl.rd)) (hok : Okay n D) (hl : D.length + tot (D.map Rl.rd) ≤ 1048576) (hn : n ≤ 65536) :
    CallsS Try.prog 14 #[.int .i64 (n : Int), v] w (fun r w' => ∃ L : Lay, r = .pointer (some ⟨L.s + 9, 0, none⟩) ∧ Fr (fun _ => False) w w' ∧ w.heap.size ≤ L.s ∧ w'.heap.size = L.s + 10 ∧ SolC w'.heap L n D (ss0 n D.length) nilS nilS) := by
  obtain ⟨a, c, rfl, hc, hp⟩ := hv.nat
  refine W_fun [4] Try.func14 rfl Try.ntmps14 Try.results14 (Nat.le_of_ble_eq_true rfl) ?_
  refine W_seq (by kernel_rfl) ?_
  -- R0
  refine W_reg (l := [⟨some 4, Op.assign (Operand.const (Value.pointer none)), 25, none⟩]) (by kernel_rfl) (by kernel_rfl) ?_
  refine TL_q rfl (QV_assign rfl) ?_
  refine TL_nil ?_
  refine W_seq (by kernel_rfl) ?_
  -- R1
  refine W_reg (l := [⟨some 20, Op.move (Operand.tmp 0), 3, none⟩, ⟨some 21, Op.move (Operand.tmp 1), 22, none⟩, ⟨some 22, Op.call { callee := Callee.value (Operand.func 20), args := #[Operand.tmp 20, Operand.tmp 21], argTypes := #[3, 22] }, 35, none⟩, ⟨some 19, Op.move (Operand.tmp 22), 35, none⟩, ⟨some 23, Op.extract (Operand.tmp 19) 0, 34, none⟩, ⟨some 24, Op.extract (Operand.tmp 19) 1, 34, none⟩, ⟨some 25, Op.extract (Operand.tmp 19) 2, 34, none⟩, ⟨some 5, Op.assign (Operand.tmp 23), 34, none⟩, ⟨some 6, Op.assign (Operand.tmp 24), 34, none⟩, ⟨some 7, Op.assign (Operand.tmp 25), 34, none⟩]) (by kernel_rfl) (by kernel_rfl) ?_
  refine TL_q rfl (QV_move rfl) ?_
  refine TL_q rfl (QV_move rfl) ?_
  refine TL_e (EV_callD rfl rfl rfl call20 (zzIndex w B n _ D hv hok hl hn) fun r w1 hr => ?_)
  obtain ⟨hfr, v1, v2, v3, rfl, hb1, hb2, hb3⟩ := hr
  obtain ⟨b1, e1, -⟩ := id hb1
  obtain ⟨b2, e2, -⟩ := id hb2
  obtain ⟨b3, e3, -⟩ := id hb3
  subst e1
  subst e2
  subst e3
  obtain ⟨s, hs⟩ : ∃ s, s = w1.heap.size := ⟨_, rfl⟩
  have hss : w1.heap.size = s := hs.symm
  have hws := hfr.size
  refine TL_q rfl (QV_move rfl) ?_
  refine TL_q rfl (QV_extract rfl rfl) ?_
  refine TL_q rfl (QV_extract rfl rfl) ?_
  refine TL_q rfl (QV_extract rfl rfl) ?_
  refine TL_q rfl (QV_assign rfl) ?_
  refine TL_q rfl (QV_assign rfl) ?_
  refine TL_q rfl (QV_assign rfl) ?_
  refine TL_nil ?_
  refine W_seq (by kernel_rfl) ?_
  -- R2
  refine W_reg (l := [⟨some 26, Op.move (Operand.tmp 1), 22, none⟩, ⟨some 27, Op.call { callee := Callee.builtin Builtin.len, args := #[Operand.tmp 26], argTypes := #[22] }, 3, none⟩, ⟨some 28, Op.makeSlice 53 (Operand.tmp 27) (Operand.tmp 27), 53, none⟩, ⟨some 8, Op.assign (Operand.tmp 28), 53, none⟩]) (by kernel_rfl) (by kernel_rfl) ?_
  refine TL_q rfl (QV_move rfl) ?_
  refine TL_q rfl (QV_len rfl el22) ?_
  refine TL_e (EV_make3 rfl rfl rfl el53 in54 (by omega) (by omega) (by omega) fun w2 cs0 hw2 hcs0 => ?_)
  have z2 := hw2.size
  have hblk0 := hw2.blk
  rw [hss] at hblk0 ⊢
  refine TL_q rfl (QV_assign rfl) ?_
  refine TL_nil ?_
  refine W_seq (by kernel_rfl) ?_
  refine W_seq (by kernel_rfl) ?_
  -- R3
  refine W_reg (l := [⟨some 9, Op.assign (Operand.const (Value.int IntKind.i64 0)), 3, none⟩]) (by kernel_rfl) (by kernel_rfl) ?_
  refine TL_q rfl (QV_assign rfl) ?_
  refine TL_nil ?_
  refine W_block 0 (by kernel_rfl) ?_
  refine W_loop (fun (k : Nat) wx => k ≤ D.length ∧ Fr (fun _ => False) w1 wx ∧ wx.heap.size = s + 1 ∧ ∃ cs, Blk wx.heap s 54 cs ∧ cs.length = D.length * 3 ∧ Trip cs (fun i v0 v1 v2 => v0 = .int .i64 (((D.getD i rl0).head : Nat) : Int) ∧ IntsAt w1.heap (fun b => b < s) v1 (casts (D.getD i rl0).all) ∧ IntsAt w1.heap (fun b => b < s) v2 (casts (D.getD i rl0).unl)) k) (fun k => [(0, .int .i64 (n : Int)), (1, .slice a D.length c), (5, .slice (some ⟨b1, 0, none⟩) n n), (6, .slice (some ⟨b2, 0, none⟩) n n), (7, .slice (some ⟨b3, 0, none⟩) n n), (8, .slice (some ⟨s, 0, none⟩) D.length D.length), (9, .int .i64 (k : Int))]) (fun k => D.length - k) 0 (by kernel_rfl) ?_ ?_ ?_
  · exact ⟨Nat.zero_le _, hw2.fr, by omega, cs0, hblk0, hcs0, fun i hi => by omega⟩
  · exact ⟨rfl, rfl, rfl, rfl, rfl, rfl, rfl, trivial⟩
  rintro k wx ⟨hk, hfx, hzx, cs, hblk, hcs, htr⟩
  refine W_seq (by kernel_rfl) ?_
  refine W_seq (by kernel_rfl) ?_
  -- R4
  refine W_reg (l := [⟨some 29, Op.move (Operand.tmp 9), 3, none⟩, ⟨some 30, Op.move (Operand.tmp 1), 22, none⟩, ⟨some 31, Op.call { callee := Callee.builtin Builtin.len, args := #[Operand.tmp 30], argTypes := #[22] }, 3, none⟩, ⟨some 32, Op.binOp BinOp.lss 3 (Operand.tmp 29) (Operand.tmp 31) 3, 4, none⟩]) (by kernel_rfl) (by kernel_rfl) ?_
  refine TL_q rfl (QV_move rfl) ?_
  refine TL_q rfl (QV_move rfl) ?_
  refine TL_q rfl (QV_len rfl el22) ?_
  refine TL_q rfl (QV_lss rfl rfl) ?_
  refine TL_nil ?_
  refine W_cond (c := Operand.tmp 32) (by kernel_rfl) rfl (fun hc32 => ?_) (fun hc32 => ?_)
  ·
    have hlt : k < D.length := by have := of_decide_eq_true hc32; omega
    obtain ⟨b, o, rfl, hbB, hcel⟩ := hp (by omega)
    obtain ⟨g1, va, vu, g2, g3, hva, hvu⟩ := hcel k hlt
    have hva1 := (hva.fr hfr (fun _ _ h => h)).mono (B' := fun b => b < s) (fun b hb => by have := hB b hb; omega)
    have hvu1 := (hvu.fr hfr (fun _ _ h => h)).mono (B' := fun b => b < s) (fun b hb => by have := hB b hb; omega)
    obtain ⟨aa, ca, rfl, -⟩ := hva.nat
    obtain ⟨au, cu, rfl, -⟩ := hvu.nat
    have hfw := hfr.trans hfx
    refine W_skip (by kernel_rfl) ?_
    refine W_seq (by kernel_rfl) ?_
    refine W_block 1 (by kernel_rfl) ?_
    -- R6
    refine W_regTail (l1 := [⟨some 35, Op.move (Operand.tmp 8), 53, none⟩, ⟨some 36, Op.move (Operand.tmp 9), 3, none⟩, ⟨some 37, Op.move (Operand.tmp 1), 22, none⟩, ⟨some 38, Op.move (Operand.tmp 9), 3, none⟩, ⟨some 39, Op.indexAddr 22 (Operand.tmp 37) (Operand.tmp 38), 0, none⟩, ⟨some 40, Op.fieldAddr 33 (Operand.tmp 39) 0, 0, none⟩, ⟨some 41, Op.load 3 (Operand.tmp 40), 3, none⟩, ⟨some 42, Op.move (Operand.tmp 1), 22, none⟩, ⟨some 43, Op.move (Operand.tmp 9), 3, none⟩, ⟨some 44, Op.indexAddr 22 (Operand.tmp 42) (Operand.tmp 43), 0, none⟩, ⟨some 45, Op.fieldAddr 33 (Operand.tmp 44) 1, 0, none⟩, ⟨some 46, Op.load 27 (Operand.tmp 45), 27, none⟩, ⟨some 47, Op.move (Operand.tmp 1), 22, none⟩, ⟨some 48, Op.move (Operand.tmp 9), 3, none⟩, ⟨some 49, Op.indexAddr 22 (Operand.tmp 47) (Operand.tmp 48), 0, none⟩, ⟨some 50, Op.fieldAddr 33 (Operand.tmp 49) 2, 0, none⟩, ⟨some 51, Op.load 27 (Operand.tmp 50), 27, none⟩, ⟨some 52, Op.build 54 #[(0, Operand.tmp 41), (1, Operand.tmp 46), (2, Operand.tmp 51)], 54, none⟩, ⟨some 53, Op.indexAddr 53 (Operand.tmp 35) (Operand.tmp 36), 0, none⟩]) (l2 := [⟨none, Op.store 54 (Operand.tmp 53) (Operand.tmp 52), 0, none⟩]) mix (by kernel_rfl) (by kernel_rfl) (by kernel_rfl) ?_
    refine TS_q rfl (QV_move rfl) ?_
    refine TS_q rfl (QV_move rfl) ?_
    refine TS_q rfl (QV_move rfl) ?_
    refine TS_q rfl (QV_move rfl) ?_
    refine TS_q rfl (QV_idx rfl rfl el22 sz33 (hlt)) ?_
    refine TS_q rfl (QV_field0 rfl fld33_0) ?_
    refine TS_q rfl (QV_load rfl one3 (cel_fr g1 hfw (fun h => h))) ?_
    refine TS_q rfl (QV_move rfl) ?_
    refine TS_q rfl (QV_move rfl) ?_
    refine TS_q rfl (QV_idx rfl rfl el22 sz33 (hlt)) ?_
    refine TS_q rfl (QV_field rfl fld33_1) ?_
    refine TS_q rfl (QV_load rfl one27 (cel_fr g2 hfw (fun h => h))) ?_
    refine TS_q rfl (QV_move rfl) ?_
    refine TS_q rfl (QV_move rfl) ?_
    refine TS_q rfl (QV_idx rfl rfl el22 sz33 (hlt)) ?_
    refine TS_q rfl (QV_field rfl fld33_2) ?_
    refine TS_q rfl (QV_load rfl one27 (cel_fr g3 hfw (fun h => h))) ?_
    refine TS_q rfl (QV_build (v := .agg #[.int .i64 (((D.getD k rl0).head : Nat) : Int), .slice aa (D.getD k rl0).all.length ca, .slice au (D.getD k rl0).unl.length cu]) rfl (fun w => by kernel_rfl)) ?_
    refine TS_q rfl (QV_idx3 rfl rfl el53 sz54 (hlt)) ?_
    refine TS_nil ?_
    refine TL_e (EV_store3 rfl rfl rfl rfl rfl sz54 hblk (by omega) fun wy hu => ?_)
    refine TL_nil ?_
    -- R5
    refine W_reg (l := [⟨some 33, Op.move (Operand.tmp 9), 3, none⟩, ⟨some 34, Op.binOp BinOp.add 3 (Operand.tmp 33) (Operand.const (Value.int IntKind.i64 1)) 3, 3, none⟩, ⟨some 9, Op.assign (Operand.tmp 34), 3, none⟩]) (by kernel_rfl) (by kernel_rfl) ?_
    refine TL_q rfl (QV_move rfl) ?_
    refine TL_q rfl (QV_add (r := ((k + 1 : Nat) : Int)) rfl rfl (by omega) (by omega) (by omega)) ?_
    refine TL_q rfl (QV_assign rfl) ?_
    refine TL_nil ?_
    exact ⟨k + 1, ⟨by omega, hfx.upd hu (by omega), by rw [hu.size]; exact hzx, _, hu.blk, by simp [hcs], htr.set (by omega) ⟨rfl, hva1, hvu1⟩⟩, ⟨rfl, rfl, rfl, rfl, rfl, rfl, rfl, trivial⟩, by omega⟩
  ·
    have hge : k = D.length := by have := of_decide_eq_false hc32; omega
    subst hge
    refine W_exit 0 (by kernel_rfl) ?_
    show T Try.prog 97 (C Try.f14 [1, 1, 1, 1]) _ _ _
    refine W_seq (by kernel_rfl) ?_
    -- R7
    refine W_reg (l := [⟨some 54, Op.move (Operand.tmp 0), 3, none⟩, ⟨some 55, Op.makeSlice 47 (Operand.tmp 54) (Operand.tmp 54), 47, none⟩, ⟨some 10, Op.assign (Operand.tmp 55), 47, none⟩]) (by kernel_rfl) (by kernel_rfl) ?_
    refine TL_q rfl (QV_move rfl) ?_
    refine TL_e (EV_make1 rfl rfl rfl el47 in45 rfl (by omega) (by omega) (by omega) fun w3 hw3 => ?_)
    have z3 := hw3.size
    have k3 := hw3.blk
    rw [i8s_rep, hzx] at k3
    rw [hzx]
    refine TL_q rfl (QV_assign rfl) ?_
    refine TL_nil ?_
    refine W_seq (by kernel_rfl) ?_
    -- R8
    refine W_reg (l := [⟨some 56, Op.move (Operand.tmp 0), 3, none⟩, ⟨some 57, Op.makeSlice 27 (Operand.tmp 56) (Operand.tmp 56), 27, none⟩, ⟨some 11, Op.assign (Operand.tmp 57), 27, none⟩]) (by kernel_rfl) (by kernel_rfl) ?_
    refine TL_q rfl (QV_move rfl) ?_
    refine TL_e (EV_make1 rfl rfl rfl el27 in3 rfl (by omega) (by omega) (by omega) fun w4 hw4 => ?_)
    have z4 := hw4.size
    have e4 : w3.heap.size = s + 2 := by omega
    have k4 := hw4.blk
    rw [ints_rep, e4] at k4
    rw [e4]
    refine TL_q rfl (QV_assign rfl) ?_
    refine TL_nil ?_
    refine W_seq (by kernel_rfl) ?_
    -- R9
    refine W_reg (l := [⟨some 58, Op.move (Operand.tmp 0), 3, none⟩, ⟨some 59, Op.makeSlice 27 (Operand.tmp 58) (Operand.tmp 58), 27, none⟩, ⟨some 12, Op.assign (Operand.tmp 59), 27, none⟩]) (by kernel_rfl) (by kernel_rfl) ?_
    refine TL_q rfl (QV_move rfl) ?_
    refine TL_e (EV_make1 rfl rfl rfl el27 in3 rfl (by omega) (by omega) (by omega) fun w5 hw5 => ?_)
    have z5 := hw5.size
    have e5 : w4.heap.size = s + 3 := by omega
    have k5 := hw5.blk
    rw [ints_rep, e5] at k5
    rw [e5]
    have f5 : Fr (fun _ => False) wx w5 := (((Fr.refl _ wx).newb hw3).newb hw4).newb hw5
    have i3 : Blk w5.heap (s + 1) 45 (i8s (List.replicate 0 1 ++ List.replicate (n - 0) 0)) := by simpa using (k3.fr hw4.fr (fun h => h)).fr hw5.fr (fun h => h)
    have i4 : Blk w5.heap (s + 2) 3 (ints (List.replicate 0 (-1) ++ List.replicate (n - 0) 0)) := by simpa using k4.fr hw5.fr (fun h => h)
    have i5 : Blk w5.heap (s + 3) 3 (ints (List.replicate 0 (-1) ++ List.replicate (n - 0) 0)) := by simpa using k5
    refine TL_q rfl (QV_assign rfl) ?_
    refine TL_nil ?_
    refine W_seq (by kernel_rfl) ?_
    refine W_seq (by kernel_rfl) ?_
    -- R10
    refine W_reg (l := [⟨some 13, Op.assign (Operand.const (Value.int IntKind.i64 0)), 3, none⟩]) (by kernel_rfl) (by kernel_rfl) ?_
    refine TL_q rfl (QV_assign rfl) ?_
    refine TL_nil ?_
    refine W_block 2 (by kernel_rfl) ?_
    refine W_loop (fun (k : Nat) wz => k ≤ n ∧ Fr (fun _ => False) wx wz ∧ wz.heap.size = s + 4 ∧ Blk wz.heap (s + 1) 45 (i8s (List.replicate k 1 ++ List.replicate (n - k) 0)) ∧ Blk wz.heap (s + 2) 3 (ints (List.replicate k (-1) ++ List.replicate (n - k) 0)) ∧ Blk wz.heap (s + 3) 3 (ints (List.replicate k (-1) ++ List.replicate (n - k) 0))) (fun k => [(0, .int .i64 (n : Int)), (1, .slice a D.length c), (5, .slice (some ⟨b1, 0, none⟩) n n), (6, .slice (some ⟨b2, 0, none⟩) n n), (7, .slice (some ⟨b3, 0, none⟩) n n), (8, .slice (some ⟨s, 0, none⟩) D.length D.length), (10, .slice (some ⟨s + 1, 0, none⟩) n n), (11, .slice (some ⟨s + 2, 0, none⟩) n n), (12, .slice (some ⟨s + 3, 0, none⟩) n n), (13, .int .i64 (k : Int))]) (fun k => n - k) 0 (by kernel_rfl) ?_ ?_ ?_
    · exact ⟨Nat.zero_le _, f5, by omega, i3, i4, i5⟩
    · exact ⟨rfl, rfl, rfl, rfl, rfl, rfl, rfl, rfl, rfl, rfl, trivial⟩
    rintro k wz ⟨hk, hfz, hzz, q3, q4, q5⟩
    refine W_seq (by kernel_rfl) ?_
    refine W_seq (by kernel_rfl) ?_
    -- R11
    refine W_reg (l := [⟨some 60, Op.move (Operand.tmp 13), 3, none⟩, ⟨some 61, Op.move (Operand.tmp 0), 3, none⟩, ⟨some 62, Op.binOp BinOp.lss 3 (Operand.tmp 60) (Operand.tmp 61) 3, 4, none⟩]) (by kernel_rfl) (by kernel_rfl) ?_
    refine TL_q rfl (QV_move rfl) ?_
    refine TL_q rfl (QV_move rfl) ?_
    refine TL_q rfl (QV_lss rfl rfl) ?_
    refine TL_nil ?_
    refine W_cond (c := Operand.tmp 62) (by kernel_rfl) rfl (fun hc62 => ?_) (fun hc62 => ?_)
    ·
      have hlt : k < n := by have := of_decide_eq_true hc62; omega
      refine W_skip (by kernel_rfl) ?_
      refine W_seq (by kernel_rfl) ?_
      refine W_block 3 (by kernel_rfl) ?_
      refine W_seq (by kernel_rfl) ?_
      -- R13
      refine W_reg (l := [⟨some 65, Op.move (Operand.tmp 10), 47, none⟩, ⟨some 66, Op.move (Operand.tmp 13), 3, none⟩, ⟨some 67, Op.indexAddr 47 (Operand.tmp 65) (Operand.tmp 66), 0, none⟩, ⟨none, Op.store 45 (Operand.tmp 67) (Operand.const (Value.int IntKind.i8 1)), 0, none⟩]) (by kernel_rfl) (by kernel_rfl) ?_
      refine TL_q rfl (QV_move rfl) ?_
      refine TL_q rfl (QV_move rfl) ?_
      refine TL_q rfl (QV_idx1 rfl rfl el47 sz45 (hlt)) ?_
      refine TL_e (EV_store rfl rfl rfl sz45 q3 (by rw [i8s_len]; simp; omega) fun y1 u1 => ?_)
      have p3 := u1.blk
      rw [i8s_set, fill_step _ _ _ _ hlt] at p3
      have q4 := q4.fr u1.fr (by omega)
      have q5 := q5.fr u1.fr (by omega)
      refine TL_nil ?_
      refine W_seq (by kernel_rfl) ?_
      -- R14
      refine W_reg (l := [⟨some 68, Op.move (Operand.tmp 11), 27, none⟩, ⟨some 69, Op.move (Operand.tmp 13), 3, none⟩, ⟨some 70, Op.indexAddr 27 (Operand.tmp 68) (Operand.tmp 69), 0, none⟩, ⟨none, Op.store 3 (Operand.tmp 70) (Operand.const (Value.int IntKind.i64 (-1))), 0, none⟩]) (by kernel_rfl) (by kernel_rfl) ?_
      refine TL_q rfl (QV_move rfl) ?_
      refine TL_q rfl (QV_move rfl) ?_
      refine TL_q rfl (QV_idx1 rfl rfl el27 sz3 (hlt)) ?_
      refine TL_e (EV_store rfl rfl rfl sz3 q4 (by rw [ints_len]; simp; omega) fun y2 u2 => ?_)
      have p4 := u2.blk
      rw [ints_set, fill_step _ _ _ _ hlt] at p4
      have q5 := q5.fr u2.fr (by omega)
      have p3 := p3.fr u2.fr (by omega)
      refine TL_nil ?_
      -- R15
      refine W_reg (l := [⟨some 71, Op.move (Operand.tmp 12), 27, none⟩, ⟨some 72, Op.move (Operand.tmp 13), 3, none⟩, ⟨some 73, Op.indexAddr 27 (Operand.tmp 71) (Operand.tmp 72), 0, none⟩, ⟨none, Op.store 3 (Operand.tmp 73) (Operand.const (Value.int IntKind.i64 (-1))), 0, none⟩]) (by kernel_rfl) (by kernel_rfl) ?_
      refine TL_q rfl (QV_move rfl) ?_
      refine TL_q rfl (QV_move rfl) ?_
      refine TL_q rfl (QV_idx1 rfl rfl el27 sz3 (hlt)) ?_
      refine TL_e (EV_store rfl rfl rfl sz3 q5 (by rw [ints_len]; simp; omega) fun y3 u3 => ?_)
      have p5 := u3.blk
      rw [ints_set, fill_step _ _ _ _ hlt] at p5
      have p3 := p3.fr u3.fr (by omega)
      have p4 := p4.fr u3.fr (by omega)
      refine TL_nil ?_
      -- R12
      refine W_reg (l := [⟨some 63, Op.move (Operand.tmp 13), 3, none⟩, ⟨some 64, Op.binOp BinOp.add 3 (Operand.tmp 63) (Operand.const (Value.int IntKind.i64 1)) 3, 3, none⟩, ⟨some 13, Op.assign (Operand.tmp 64), 3, none⟩]) (by kernel_rfl) (by kernel_rfl) ?_
      refine TL_q rfl (QV_move rfl) ?_
      refine TL_q rfl (QV_add (r := ((k + 1 : Nat) : Int)) rfl rfl (by omega) (by omega) (by omega)) ?_
      refine TL_q rfl (QV_assign rfl) ?_
      refine TL_nil ?_
      exact ⟨k + 1, ⟨by omega, ((hfz.upd u1 (by omega)).upd u2 (by omega)).upd u3 (by omega), by rw [u3.size, u2.size, u1.size, hzz], p3, p4, p5⟩, ⟨rfl, rfl, rfl, rfl, rfl, rfl, rfl, rfl, rfl, rfl, trivial⟩, by omega⟩
    ·
      have hge : k = n := by have := of_decide_eq_false hc62; omega
      subst hge
      simp only [Nat.sub_self, List.replicate_zero, List.append_nil] at q3 q4 q5
      refine W_exit 2 (by kernel_rfl) ?_
      show T Try.prog 97 (C Try.f14 [1, 1, 1, 1, 1, 1, 1, 1]) _ _ _
      refine W_seq (by kernel_rfl) ?_
      -- R16
      refine W_reg (l := [⟨some 74, Op.move (Operand.tmp 0), 3, none⟩, ⟨some 75, Op.makeSlice 27 (Operand.tmp 74) (Operand.tmp 74), 27, none⟩, ⟨some 14, Op.assign (Operand.tmp 75), 27, none⟩]) (by kernel_rfl) (by kernel_rfl) ?_
      refine TL_q rfl (QV_move rfl) ?_
      refine TL_e (EV_make1 rfl rfl rfl el27 in3 rfl (by omega) (by omega) (by omega) fun w6 hw6 => ?_)
      have z6 := hw6.size
      have k6 := hw6.blk
      rw [ints_rep, hzz] at k6
      rw [hzz]
      refine TL_q rfl (QV_assign rfl) ?_
      refine TL_nil ?_
      refine W_seq (by kernel_rfl) ?_
      -- R17
      refine W_reg (l := [⟨some 76, Op.move (Operand.tmp 1), 22, none⟩, ⟨some 77, Op.call { callee := Callee.builtin Builtin.len, args := #[Operand.tmp 76], argTypes := #[22] }, 3, none⟩, ⟨some 15, Op.assign (Operand.tmp 77), 3, none⟩]) (by kernel_rfl) (by kernel_rfl) ?_
      refine TL_q rfl (QV_move rfl) ?_
      refine TL_q rfl (QV_len rfl el22) ?_
      refine TL_q rfl (QV_assign rfl) ?_
      refine TL_nil ?_
      refine W_seq (by kernel_rfl) ?_
      -- R18
      refine W_reg (l := [⟨some 78, Op.move (Operand.tmp 15), 3, none⟩, ⟨some 79, Op.makeSlice 27 (Operand.tmp 78) (Operand.tmp 78), 27, none⟩, ⟨some 16, Op.assign (Operand.tmp 79), 27, none⟩]) (by kernel_rfl) (by kernel_rfl) ?_
      refine TL_q rfl (QV_move rfl) ?_
      refine TL_e (EV_make1 rfl rfl rfl el27 in3 rfl (by omega) (by omega) (by omega) fun w7 hw7 => ?_)
      have z7 := hw7.size
      have e7 : w6.heap.size = s + 5 := by omega
      have k7 := hw7.blk
      rw [ints_rep, e7] at k7
      rw [e7]
      refine TL_q rfl (QV_assign rfl) ?_
      refine TL_nil ?_
      refine W_seq (by kernel_rfl) ?_
      -- R19
      refine W_reg (l := [⟨some 80, Op.move (Operand.tmp 15), 3, none⟩, ⟨some 81, Op.makeSlice 37 (Operand.tmp 80) (Operand.tmp 80), 37, none⟩, ⟨some 17, Op.assign (Operand.tmp 81), 37, none⟩]) (by kernel_rfl) (by kernel_rfl) ?_
      refine TL_q rfl (QV_move rfl) ?_
      refine TL_e (EV_make1 rfl rfl rfl el37 in4 rfl (by omega) (by omega) (by omega) fun w8 hw8 => ?_)
      have z8 := hw8.size
      have e8 : w7.heap.size = s + 6 := by omega
      have k8 := hw8.blk
      rw [bools_rep, e8] at k8
      rw [e8]
      refine TL_q rfl (QV_assign rfl) ?_
      refine TL_nil ?_
      refine W_seq (by kernel_rfl) ?_
      -- R20
      refine W_reg (l := [⟨some 82, Op.move (Operand.tmp 15), 3, none⟩, ⟨some 83, Op.makeSlice 27 (Operand.tmp 82) (Operand.tmp 82), 27, none⟩, ⟨some 18, Op.assign (Operand.tmp 83), 27, none⟩]) (by kernel_rfl) (by kernel_rfl) ?_
      refine TL_q rfl (QV_move rfl) ?_
      refine TL_e (EV_make1 rfl rfl rfl el27 in3 rfl (by omega) (by omega) (by omega) fun w9 hw9 => ?_)
      have z9 := hw9.size
      have e9 : w8.heap.size = s + 7 := by omega
      have e10 : w9.heap.size = s + 8 := by omega
      have k9 := hw9.blk
      rw [ints_rep, e9] at k9
      rw [e9]
      refine TL_q rfl (QV_assign rfl) ?_
      refine TL_nil ?_
      refine W_seq (by kernel_rfl) ?_
      -- R21
      refine W_reg (l := [⟨some 84, Op.move (Operand.tmp 0), 3, none⟩, ⟨some 85, Op.move (Operand.tmp 8), 53, none⟩, ⟨some 86, Op.move (Operand.tmp 5), 34, none⟩, ⟨some 87, Op.move (Operand.tmp 6), 34, none⟩, ⟨some 88, Op.move (Operand.tmp 7), 34, none⟩, ⟨some 89, Op.move (Operand.tmp 10), 47, none⟩, ⟨some 90, Op.move (Operand.tmp 11), 27, none⟩, ⟨some 91, Op.move (Operand.tmp 14), 27, none⟩, ⟨some 92, Op.move (Operand.tmp 12), 27, none⟩, ⟨some 93, Op.move (Operand.tmp 16), 27, none⟩, ⟨some 94, Op.move (Operand.tmp 17), 37, none⟩, ⟨some 95, Op.move (Operand.tmp 18), 27, none⟩, ⟨some 96, Op.call { callee := Callee.value (Operand.func 35), args := #[Operand.tmp 84, Operand.tmp 85, Operand.tmp 86, Operand.tmp 87, Operand.tmp 88, Operand.tmp 89, Operand.tmp 90, Operand.tmp 91, Operand.tmp 92, Operand.tmp 93, Operand.tmp 94, Operand.tmp 95], argTypes := #[3, 53, 34, 34, 34, 47, 27, 27, 27, 27, 37, 27] }, 25, none⟩, ⟨some 4, Op.assign (Operand.tmp 96), 25, none⟩]) (by kernel_rfl) (by kernel_rfl) ?_
      refine TL_q rfl (QV_move rfl) ?_
      refine TL_q rfl (QV_move rfl) ?_
      refine TL_q rfl (QV_move rfl) ?_
      refine TL_q rfl (QV_move rfl) ?_
      refine TL_q rfl (QV_move rfl) ?_
      refine TL_q rfl (QV_move rfl) ?_
      refine TL_q rfl (QV_move rfl) ?_
      refine TL_q rfl (QV_move rfl) ?_
      refine TL_q rfl (QV_move rfl) ?_
      refine TL_q rfl (QV_move rfl) ?_
      refine TL_q rfl (QV_move rfl) ?_
      refine TL_q rfl (QV_move rfl) ?_
      refine TL_e (EV_callD rfl rfl rfl call35 (newSolver0 w9 (k : Int) (some ⟨s, 0, none⟩, D.length, D.length) (some ⟨b1, 0, none⟩, k, k) (some ⟨b2, 0, none⟩, k, k) (some ⟨b3, 0, none⟩, k, k) (some ⟨s + 1, 0, none⟩, k, k) (some ⟨s + 2, 0, none⟩, k, k) (some ⟨s + 4, 0, none⟩, k, k) (some ⟨s + 3, 0, none⟩, k, k) (some ⟨s + 5, 0, none⟩, D.length, D.length) (some ⟨s + 6, 0, none⟩, D.length, D.length) (some ⟨s + 7, 0, none⟩, D.length, D.length)) fun r w10 hr => ?_)
      refine TL_q rfl (QV_assign rfl) ?_
      refine TL_nil ?_
      refine W_ret (by kernel_rfl) ?_
      obtain ⟨rfl, f10, z10, k10, k11⟩ := hr
      rw [e10] at k10 k11 z10 ⊢
      have fa : Fr (fun _ => False) wz w10 := (((((Fr.refl _ wz).newb hw6).newb hw7).newb hw8).newb hw9).trans f10
      have fb := hfz.trans fa
      have fc := hfx.trans fb
      refine ⟨_, rfl, ⟨s, .slice (some ⟨b1, 0, none⟩) k k, .slice (some ⟨b2, 0, none⟩) k k, .slice (some ⟨b3, 0, none⟩) k k⟩, rfl, hfr.trans fc, by show w.heap.size ≤ s; omega, by show w10.heap.size = s + 10; omega, ?_⟩
      have hmv : ∀ {v t}, TblAt w1.heap (fun b => w.heap.size ≤ b ∧ b < w1.heap.size) v k t → TblAt w10.heap (fun b => b < s) v k t := by
        rintro v t ⟨b, h1, h2, h3⟩
        refine ⟨b, h1, by omega, fun a ha => ?_⟩
        obtain ⟨va, h4, h5⟩ := h3 a ha
        exact ⟨va, cel_fr h4 fc (fun h => h), (h5.fr fc (fun _ _ h => h)).mono (fun b hb => by omega)⟩
      have hrs : Blk w10.heap s 54 cs := hblk.fr fb (fun h => h)
      refine ⟨⟨?_, hmv hb1, hmv hb2, hmv hb3, k10⟩, k11, q3.fr fa (fun h => h), q4.fr fa (fun h => h), q5.fr fa (fun h => h), (((k6.fr hw7.fr (fun h => h)).fr hw8.fr (fun h => h)).fr hw9.fr (fun h => h)).fr f10 (fun h => h),
        ((k7.fr hw8.fr (fun h => h)).fr hw9.fr (fun h => h)).fr f10 (fun h => h), (k8.fr hw9.fr (fun h => h)).fr f10 (fun h => h), k9.fr f10 (fun h => h), by simp [ss0], by simp [ss0], by simp [ss0], by simp [ss0], by simp [ss0], by simp [ss0], by simp [ss0]⟩
      refine ⟨some ⟨s, 0, none⟩, D.length, by simp, by simp, fun h => (by cases h), fun hp2 => ⟨s, 0, rfl, Nat.le_refl _, fun i hi => ?_⟩⟩
      rw [List.length_map] at hi
      obtain ⟨v0, va, vu, t0, t1, t2, rfl, t4, t5⟩ := htr i hi
      rw [rd_getD]
      simp only [Nat.zero_add]
      exact ⟨by rw [hrs.cel]; exact t0, va, vu, by rw [hrs.cel]; exact t1, by rw [hrs.cel]; exact t2, (t4.fr fc (fun _ _ h => h)).mono (fun b hb => Nat.le_of_lt hb), (t5.fr fc (fun _ _ h => h)).mono (fun b hb => Nat.le_of_lt hb)⟩

end Go.Proofs.Qxb6600121a
