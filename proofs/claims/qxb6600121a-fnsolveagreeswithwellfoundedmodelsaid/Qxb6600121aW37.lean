/-
   Walks written by program (wip/gen).
-/
import Derived.Test.Qxb6600121aLaw11
import Derived.Test.Qxb6600121aSolQ
namespace Go.Proofs.Qxb6600121a
open Go Go.Proofs
set_option linter.unusedVariables false
set_option linter.unusedSimpArgs false

theorem Upd.int {w w' : World} {b te k : Nat} {v : Int} {xs : List Int} (u : Upd w w' b te ((ints xs).set k (.int .i64 v))) : Upd w w' b te (ints (xs.set k v)) := by rw [← ints_set]; exact u
structure ZS where
  d : List Bool
  blk : List Bool
  cnt : List Int
  q : List Nat
  sv : Value
structure ZT where
  d : List Bool
  cnt : List Int
  dn : List Nat
  q : List Nat
  sv : Value
structure ZV where
  d : List Bool
  cnt : List Int
  q : List Nat
  sv : Value
set_option maxRecDepth 10000 in
set_option maxHeartbeats 1000000 in
theorem zzLeast (w : World) (B Ct : Nat → Prop) (n : Nat) (rv uv : Value) (D : List Rl) (hv : RulesAt w.heap B rv (D.map Rl.rd)) (hok : Okay n D) (hl : D.length + tot (D.map Rl.rd) ≤ 1048576) (hn : n ≤ 65536)
    (hut : TblAt w.heap Ct uv n (idxU D n D.length)) (jb : Nat) (js : List Bool) (hjs : Blk w.heap jb 4 (bools js)) (hjl : js.length = n) :
    CallsS Try.prog 37 #[.int .i64 (n : Int), rv, uv, .slice (some ⟨jb, 0, none⟩) n n] w (fun r w' => Fr (fun _ => False) w w' ∧ ∃ d : List Bool, r = .slice (some ⟨w.heap.size, 0, none⟩) n n ∧ d.length = n ∧ Blk w'.heap w.heap.size 4 (bools d) ∧ ∀ a, a < n → (d.getD a false = true ↔ Lst D (tS js) a)) := by
  obtain ⟨ra, rc, rfl, hrcap, hrul⟩ := hv.nat
  obtain ⟨tu, rfl, htC, htab⟩ := hut
  refine W_fun [8] Try.func37 rfl Try.ntmps37 Try.results37 (Nat.le_of_ble_eq_true rfl) ?_
  refine W_seq (by kernel_rfl) ?_
  -- R0
  refine W_reg (l := [⟨some 8, Op.assign (Operand.const (Value.slice none 0 0)), 37, none⟩]) (by kernel_rfl) (by kernel_rfl) ?_
  refine TL_q rfl (QV_assign rfl) ?_
  refine TL_nil ?_
  refine W_seq (by kernel_rfl) ?_
  -- R1
  refine W_reg (l := [⟨some 22, Op.move (Operand.tmp 0), 3, none⟩, ⟨some 23, Op.makeSlice 37 (Operand.tmp 22) (Operand.tmp 22), 37, none⟩, ⟨some 9, Op.assign (Operand.tmp 23), 37, none⟩]) (by kernel_rfl) (by kernel_rfl) ?_
  refine TL_q rfl (QV_move rfl) ?_
  refine TL_e (EV_make1 rfl rfl rfl el37 in4 rfl (by omega) (by omega) (by omega) fun w1 k1 => ?_)
  refine TL_q rfl (QV_assign rfl) ?_
  refine TL_nil ?_
  refine W_seq (by kernel_rfl) ?_
  -- R2
  refine W_reg (l := [⟨some 24, Op.move (Operand.tmp 1), 22, none⟩, ⟨some 25, Op.call { callee := Callee.builtin Builtin.len, args := #[Operand.tmp 24], argTypes := #[22] }, 3, none⟩, ⟨some 10, Op.assign (Operand.tmp 25), 3, none⟩]) (by kernel_rfl) (by kernel_rfl) ?_
  refine TL_q rfl (QV_move rfl) ?_
  refine TL_q rfl (QV_len rfl el22) ?_
  refine TL_q rfl (QV_assign rfl) ?_
  refine TL_nil ?_
  refine W_seq (by kernel_rfl) ?_
  -- R3
  refine W_reg (l := [⟨some 26, Op.move (Operand.tmp 10), 3, none⟩, ⟨some 27, Op.makeSlice 27 (Operand.tmp 26) (Operand.tmp 26), 27, none⟩, ⟨some 11, Op.assign (Operand.tmp 27), 27, none⟩]) (by kernel_rfl) (by kernel_rfl) ?_
  refine TL_q rfl (QV_move rfl) ?_
  refine TL_e (EV_make1 rfl rfl rfl el27 in3 rfl (by omega) (by omega) (by omega) fun w2 k2 => ?_)
  refine TL_q rfl (QV_assign rfl) ?_
  refine TL_nil ?_
  refine W_seq (by kernel_rfl) ?_
  -- R4
  refine W_reg (l := [⟨some 28, Op.move (Operand.tmp 10), 3, none⟩, ⟨some 29, Op.makeSlice 37 (Operand.tmp 28) (Operand.tmp 28), 37, none⟩, ⟨some 12, Op.assign (Operand.tmp 29), 37, none⟩]) (by kernel_rfl) (by kernel_rfl) ?_
  refine TL_q rfl (QV_move rfl) ?_
  refine TL_e (EV_make1 rfl rfl rfl el37 in4 rfl (by omega) (by omega) (by omega) fun w3 k3 => ?_)
  have z1 := k1.size
  have z2 := k2.size
  have z3 := k3.size
  have e2 : w2.heap.size = w.heap.size + 2 := by omega
  rw [z1, e2]
  have hz0 : ZM w w3 (List.replicate n false) (List.replicate D.length false) (List.replicate D.length 0) nilS [] := by
    refine ⟨((k1.fr).newb k2).newb k3, by omega, ?_, ?_, ?_, Row.nil _ _ _, fun g hg => by cases hg⟩
    · have := (k1.blk.fr k2.fr (fun e => e)).fr k3.fr (fun e => e)
      rw [bools_rep] at this
      exact this
    · have := k2.blk.fr k3.fr (fun e => e)
      rw [ints_rep, z1] at this
      exact this
    · have := k3.blk
      rw [bools_rep, e2] at this
      exact this
  refine TL_q rfl (QV_assign rfl) ?_
  refine TL_nil ?_
  refine W_seq (by kernel_rfl) ?_
  -- R5
  refine W_reg (l := [⟨some 13, Op.assign (Operand.const (Value.slice none 0 0)), 27, none⟩]) (by kernel_rfl) (by kernel_rfl) ?_
  refine TL_q rfl (QV_assign rfl) ?_
  refine TL_nil ?_
  refine W_seq (by kernel_rfl) ?_
  refine W_seq (by kernel_rfl) ?_
  -- R6
  refine W_reg (l := [⟨some 14, Op.assign (Operand.const (Value.int IntKind.i64 0)), 3, none⟩]) (by kernel_rfl) (by kernel_rfl) ?_
  refine TL_q rfl (QV_assign rfl) ?_
  refine TL_nil ?_
  refine W_block 0 (by kernel_rfl) ?_
  refine W_loop (ι := Nat × ZS) (fun i w4 => i.1 ≤ D.length ∧ LI D n (tS js) i.1 i.2.d i.2.blk i.2.cnt i.2.q ∧ ZM w w4 i.2.d i.2.blk i.2.cnt i.2.sv i.2.q) (fun i => [(1, .slice ra D.length rc), (2, .slice (some ⟨tu, 0, none⟩) n n), (3, .slice (some ⟨jb, 0, none⟩) n n), (9, .slice (some ⟨w.heap.size, 0, none⟩) n n), (10, .int .i64 ((D.length : Nat) : Int)), (11, .slice (some ⟨w.heap.size + 1, 0, none⟩) D.length D.length), (12, .slice (some ⟨w.heap.size + 2, 0, none⟩) D.length D.length), (13, i.2.sv), (14, .int .i64 (i.1 : Int))]) (fun i => D.length - i.1) (0, ⟨List.replicate n false, List.replicate D.length false, List.replicate D.length 0, [], nilS⟩) (by kernel_rfl) ?_ ?_ ?_
  · exact ⟨Nat.zero_le _, li0, hz0⟩
  · exact ⟨rfl, rfl, rfl, rfl, rfl, rfl, rfl, rfl, rfl, trivial⟩
  rintro ⟨k, d, blk, cnt, q, sv⟩ w4 ⟨hk, hli, hz⟩
  dsimp only at hk hli hz ⊢
  refine W_seq (by kernel_rfl) ?_
  refine W_seq (by kernel_rfl) ?_
  -- R7
  refine W_reg (l := [⟨some 30, Op.move (Operand.tmp 14), 3, none⟩, ⟨some 31, Op.move (Operand.tmp 10), 3, none⟩, ⟨some 32, Op.binOp BinOp.lss 3 (Operand.tmp 30) (Operand.tmp 31) 3, 4, none⟩]) (by kernel_rfl) (by kernel_rfl) ?_
  refine TL_q rfl (QV_move rfl) ?_
  refine TL_q rfl (QV_move rfl) ?_
  refine TL_q rfl (QV_lss rfl rfl) ?_
  refine TL_nil ?_
  refine W_cond (c := Operand.tmp 32) (by kernel_rfl) rfl (fun hc32 => ?_) (fun hc32 => ?_)
  ·
    have hlt : k < D.length := by have := of_decide_eq_true hc32; omega
    obtain ⟨rb, ro, rfl, hrB, hrc2⟩ := hrul (by omega)
    obtain ⟨g1, va, vu, g2, g3, ga, gu⟩ := hrc2 k hlt
    obtain ⟨aa, ca, rfl, hca, hal⟩ := ga.nat
    obtain ⟨au, cu, rfl, hcu, hun⟩ := gu.nat
    have hoks := hok _ (getD_mem rl0 hlt)
    have htd := totD D k hlt
    have htl := tot_take_le (D.map Rl.rd) (k + 1)
    have hql := hli.len
    have hzz := hz.z
    refine W_skip (by kernel_rfl) ?_
    refine W_seq (by kernel_rfl) ?_
    refine W_block 1 (by kernel_rfl) ?_
    refine W_seq (by kernel_rfl) ?_
    -- R9
    refine W_reg (l := [⟨some 35, Op.move (Operand.tmp 1), 22, none⟩, ⟨some 36, Op.move (Operand.tmp 14), 3, none⟩, ⟨some 37, Op.indexAddr 22 (Operand.tmp 35) (Operand.tmp 36), 0, none⟩, ⟨some 38, Op.load 33 (Operand.tmp 37), 33, none⟩, ⟨some 15, Op.alloc 33, 0, none⟩, ⟨none, Op.store 33 (Operand.tmp 15) (Operand.tmp 38), 0, none⟩]) (by kernel_rfl) (by kernel_rfl) ?_
    refine TL_q rfl (QV_move rfl) ?_
    refine TL_q rfl (QV_move rfl) ?_
    refine TL_q rfl (QV_idx rfl rfl el22 sz33 (hlt)) ?_
    refine TL_q rfl (QV_load3 rfl Try.underlying33 sz33 (cel_fr g1 hz.f (fun h => h)) (cel_fr g2 hz.f (fun h => h)) (cel_fr g3 hz.f (fun h => h))) ?_
    refine TL_e (EV_alloc rfl in33 fun w5 k5 => ?_)
    have hb5 : Blk w5.heap w4.heap.size 33 [.int .i64 0, .slice none 0 0, .slice none 0 0] := k5.blk
    refine TL_e (EV_store3 rfl rfl rfl rfl rfl sz33 hb5 (by decide) fun w6 u6 => ?_)
    have hb6 : Blk w6.heap w4.heap.size 33 [.int .i64 (((D.getD k rl0).head : Nat) : Int), .slice aa (D.getD k rl0).all.length ca, .slice au (D.getD k rl0).unl.length cu] := u6.blk
    have f6 : Fr (fun _ => False) w4 w6 := k5.fr.upd u6 (Nat.le_refl _)
    have hz6 := hz.fr f6
    refine TL_nil ?_
    refine W_seq (by kernel_rfl) ?_
    refine W_seq (by kernel_rfl) ?_
    -- R10
    refine W_reg (l := [⟨some 39, Op.fieldAddr 33 (Operand.tmp 15) 2, 0, none⟩, ⟨some 40, Op.load 27 (Operand.tmp 39), 27, none⟩, ⟨some 41, Op.call { callee := Callee.builtin Builtin.len, args := #[Operand.tmp 40], argTypes := #[27] }, 3, none⟩, ⟨some 42, Op.move (Operand.const (Value.int IntKind.i64 0)), 3, none⟩]) (by kernel_rfl) (by kernel_rfl) ?_
    refine TL_q rfl (QV_field rfl fld33_2) ?_
    refine TL_q rfl (QV_load rfl one27 (by rw [hb6.cel]; rfl)) ?_
    refine TL_q rfl (QV_len rfl el27) ?_
    refine TL_q rfl (QV_move rfl) ?_
    refine TL_nil ?_
    refine W_block 2 (by kernel_rfl) ?_
    refine W_loop (fun (x : Nat) w7 => x ≤ (D.getD k rl0).unl.length ∧ w6 = w7 ∧ ∀ y, y < x → js.getD ((D.getD k rl0).unl.getD y 0) false = false) (fun x => [(1, .slice (some ⟨rb, ro, none⟩) D.length rc), (2, .slice (some ⟨tu, 0, none⟩) n n), (3, .slice (some ⟨jb, 0, none⟩) n n), (9, .slice (some ⟨w.heap.size, 0, none⟩) n n), (10, .int .i64 ((D.length : Nat) : Int)), (11, .slice (some ⟨w.heap.size + 1, 0, none⟩) D.length D.length), (12, .slice (some ⟨w.heap.size + 2, 0, none⟩) D.length D.length), (13, sv), (14, .int .i64 (k : Int)), (15, .pointer (some ⟨w4.heap.size, 0, none⟩)), (40, .slice au (D.getD k rl0).unl.length cu), (41, .int .i64 ((D.getD k rl0).unl.length : Nat)), (42, .int .i64 (x : Int))]) (fun x => (D.getD k rl0).unl.length - x) 0 (by kernel_rfl) ?_ ?_ ?_
    · exact ⟨Nat.zero_le _, rfl, fun y hy => absurd hy (Nat.not_lt_zero _)⟩
    · exact ⟨rfl, rfl, rfl, rfl, rfl, rfl, rfl, rfl, rfl, rfl, rfl, rfl, rfl, trivial⟩
    rintro x w7 ⟨hx, rfl, hfree⟩
    refine W_seq (by kernel_rfl) ?_
    -- R11
    refine W_reg (l := [⟨some 43, Op.binOp BinOp.lss 3 (Operand.tmp 42) (Operand.tmp 41) 3, 0, none⟩]) (by kernel_rfl) (by kernel_rfl) ?_
    refine TL_q rfl (QV_lss rfl rfl) ?_
    refine TL_nil ?_
    refine W_seq (by kernel_rfl) ?_
    refine W_cond (c := Operand.tmp 43) (by kernel_rfl) rfl (fun hc43 => ?_) (fun hc43 => ?_)
    ·
      have hxl : x < (D.getD k rl0).unl.length := by have := of_decide_eq_true hc43; omega
      obtain ⟨b2, o2, rfl, hb2B, hc2⟩ := hun (by omega)
      have hdn := hoks.2.2 _ (getD_mem 0 hxl)
      refine W_skip (by kernel_rfl) ?_
      refine W_seq (by kernel_rfl) ?_
      refine W_block 3 (by kernel_rfl) ?_
      refine W_seq (by kernel_rfl) ?_
      -- R12
      refine W_reg (l := [⟨some 44, Op.indexAddr 27 (Operand.tmp 40) (Operand.tmp 42), 0, none⟩, ⟨some 45, Op.load 3 (Operand.tmp 44), 3, none⟩, ⟨some 17, Op.assign (Operand.tmp 45), 3, none⟩]) (by kernel_rfl) (by kernel_rfl) ?_
      refine TL_q rfl (QV_idxO rfl rfl el27 sz3 (hxl)) ?_
      refine TL_q rfl (QV_load rfl one3 (cel_fr (hc2 x hxl) hz6.f (fun h => h))) ?_
      refine TL_q rfl (QV_assign rfl) ?_
      refine TL_nil ?_
      refine W_seq (by kernel_rfl) ?_
      -- R13
      refine W_reg (l := [⟨some 46, Op.move (Operand.tmp 3), 37, none⟩, ⟨some 47, Op.move (Operand.tmp 17), 3, none⟩, ⟨some 48, Op.indexAddr 37 (Operand.tmp 46) (Operand.tmp 47), 0, none⟩, ⟨some 49, Op.load 4 (Operand.tmp 48), 4, none⟩]) (by kernel_rfl) (by kernel_rfl) ?_
      refine TL_q rfl (QV_move rfl) ?_
      refine TL_q rfl (QV_move rfl) ?_
      refine TL_q rfl (QV_idx1 rfl rfl el37 sz4 (hdn)) ?_
      refine TL_q rfl (QV_load rfl one4 ((hjs.fr hz6.f (fun e => e)).cB (by rw [hjl]; exact hdn))) ?_
      refine TL_nil ?_
      refine W_cond (c := Operand.tmp 49) (by kernel_rfl) rfl (fun hc49 => ?_) (fun hc49 => ?_)
      ·
        refine W_seq (by kernel_rfl) ?_
        -- R14
        refine W_reg (l := [⟨some 50, Op.move (Operand.tmp 12), 37, none⟩, ⟨some 51, Op.move (Operand.tmp 14), 3, none⟩, ⟨some 52, Op.indexAddr 37 (Operand.tmp 50) (Operand.tmp 51), 0, none⟩, ⟨none, Op.store 4 (Operand.tmp 52) (Operand.const (Value.bool true)), 0, none⟩]) (by kernel_rfl) (by kernel_rfl) ?_
        refine TL_q rfl (QV_move rfl) ?_
        refine TL_q rfl (QV_move rfl) ?_
        refine TL_q rfl (QV_idx1 rfl rfl el37 sz4 (hlt)) ?_
        refine TL_e (EV_store rfl rfl rfl sz4 hz6.bb (by rw [bools_len, hli.bl]; exact hlt) fun w8 u8 => ?_)
        have u8b : Upd w6 w8 (w.heap.size + 2) 4 (bools (blk.set k true)) := by rw [← bools_set]; exact u8
        have hx8 : ∃ bl : List Bool, ZM w w8 d bl cnt sv q ∧ bl.length = D.length ∧ (∀ i, i ≠ k → bl.getD i false = blk.getD i false) ∧ (bl.getD k false = true ↔ ∃ b ∈ (D.getD k rl0).unl, tS js b) := by
          refine ⟨blk.set k true, hz6.setB u8b, by rw [List.length_set]; exact hli.bl, fun i hi => getD_set_ne' _ _ _ _ _ (Ne.symm hi), ?_⟩
          rw [getD_set_eq _ _ _ _ (by rw [hli.bl]; exact hlt)]
          exact ⟨fun _ => ⟨_, getD_mem 0 hxl, hc49⟩, fun _ => rfl⟩
        have hb8 := hb6.fr u8.fr (by omega)
        obtain ⟨bl, hz8, hl8, hs8, hv8⟩ := hx8
        refine TL_nil ?_
        refine W_exit 2 (by kernel_rfl) ?_
        show T Try.prog 149 (C Try.f37 [1, 1, 0, 0, 1, 0, 0, 1, 0, 1, 1, 1, 1, 1, 1]) _ _ _
        refine W_seq (by kernel_rfl) ?_
        -- R16
        refine W_reg (l := [⟨some 54, Op.move (Operand.tmp 11), 27, none⟩, ⟨some 55, Op.move (Operand.tmp 14), 3, none⟩, ⟨some 56, Op.fieldAddr 33 (Operand.tmp 15) 1, 0, none⟩, ⟨some 57, Op.load 27 (Operand.tmp 56), 27, none⟩, ⟨some 58, Op.call { callee := Callee.builtin Builtin.len, args := #[Operand.tmp 57], argTypes := #[27] }, 3, none⟩, ⟨some 59, Op.indexAddr 27 (Operand.tmp 54) (Operand.tmp 55), 0, none⟩, ⟨none, Op.store 3 (Operand.tmp 59) (Operand.tmp 58), 0, none⟩]) (by kernel_rfl) (by kernel_rfl) ?_
        refine TL_q rfl (QV_move rfl) ?_
        refine TL_q rfl (QV_move rfl) ?_
        refine TL_q rfl (QV_field rfl fld33_1) ?_
        refine TL_q rfl (QV_load rfl one27 (by rw [hb8.cel]; rfl)) ?_
        refine TL_q rfl (QV_len rfl el27) ?_
        refine TL_q rfl (QV_idx1 rfl rfl el27 sz3 (hlt)) ?_
        refine TL_e (EV_store rfl rfl rfl sz3 hz8.bc (by rw [ints_len, hli.cl]; exact hlt) fun w9 u9 => ?_)
        have u9b := u9.int
        have hz9 := hz8.setC u9b
        have hb9 := hb8.fr u9.fr (by omega)
        have gc9 := hz9.bc.cI (k := k) (by rw [List.length_set, hli.cl]; exact hlt)
        rw [getD_set_eq _ _ _ _ (by rw [hli.cl]; exact hlt)] at gc9
        refine TL_nil ?_
        refine W_seq (by kernel_rfl) ?_
        -- R17
        refine W_reg (l := [⟨some 60, Op.move (Operand.tmp 12), 37, none⟩, ⟨some 61, Op.move (Operand.tmp 14), 3, none⟩, ⟨some 62, Op.indexAddr 37 (Operand.tmp 60) (Operand.tmp 61), 0, none⟩, ⟨some 63, Op.load 4 (Operand.tmp 62), 4, none⟩, ⟨some 64, Op.unOp UnOp.not 4 (Operand.tmp 63), 4, none⟩, ⟨some 65, Op.move (Operand.tmp 64), 4, none⟩, ⟨some 66, Op.move (Operand.tmp 11), 27, some (5, true)⟩, ⟨some 67, Op.move (Operand.tmp 14), 3, some (5, true)⟩, ⟨some 68, Op.indexAddr 27 (Operand.tmp 66) (Operand.tmp 67), 0, some (5, true)⟩, ⟨some 69, Op.load 3 (Operand.tmp 68), 3, some (5, true)⟩, ⟨some 70, Op.binOp BinOp.eql 3 (Operand.tmp 69) (Operand.const (Value.int IntKind.i64 0)) 3, 4, some (5, true)⟩, ⟨some 71, Op.pick (Operand.tmp 65) (Operand.tmp 70) (Operand.const (Value.bool false)), 4, none⟩, ⟨some 72, Op.move (Operand.tmp 71), 4, none⟩, ⟨some 73, Op.move (Operand.tmp 9), 37, some (12, true)⟩, ⟨some 74, Op.fieldAddr 33 (Operand.tmp 15) 0, 0, some (12, true)⟩, ⟨some 75, Op.load 3 (Operand.tmp 74), 3, some (12, true)⟩, ⟨some 76, Op.indexAddr 37 (Operand.tmp 73) (Operand.tmp 75), 0, some (12, true)⟩, ⟨some 77, Op.load 4 (Operand.tmp 76), 4, some (12, true)⟩, ⟨some 78, Op.unOp UnOp.not 4 (Operand.tmp 77), 4, some (12, true)⟩, ⟨some 79, Op.pick (Operand.tmp 72) (Operand.tmp 78) (Operand.const (Value.bool false)), 4, none⟩]) (by kernel_rfl) (by kernel_rfl) ?_
        refine TL_q rfl (QV_move rfl) ?_
        refine TL_q rfl (QV_move rfl) ?_
        refine TL_q rfl (QV_idx1 rfl rfl el37 sz4 (hlt)) ?_
        refine TL_q rfl (QV_load rfl one4 (hz9.bb.cB (by rw [hl8]; exact hlt))) ?_
        refine TL_q rfl (QV_not rfl) ?_
        refine TL_q rfl (QV_move rfl) ?_
        refine TL_cases (t := 65) rfl (fun hb65 => ?_) (fun hb65 => ?_)
        ·
          have hb0 : bl.getD k false = false := by simpa using hb65
          refine TL_gq rfl rfl rfl rfl (QV_move rfl) ?_
          refine TL_gq rfl rfl rfl rfl (QV_move rfl) ?_
          refine TL_gq rfl rfl rfl rfl (QV_idx1 rfl rfl el27 sz3 (hlt)) ?_
          refine TL_gq rfl rfl rfl rfl (QV_load rfl one3 (gc9)) ?_
          refine TL_gq rfl rfl rfl rfl (QV_eql rfl rfl) ?_
          refine TL_q rfl (QV_pickT rfl rfl) ?_
          refine TL_q rfl (QV_move rfl) ?_
          refine TL_cases (t := 72) rfl (fun hb72 => ?_) (fun hb72 => ?_)
          ·
            have hal0 : (D.getD k rl0).all = [] := List.length_eq_zero_iff.1 (by have := of_decide_eq_true hb72; omega)
            refine TL_gq rfl rfl rfl rfl (QV_move rfl) ?_
            refine TL_gq rfl rfl rfl rfl (QV_field0 rfl fld33_0) ?_
            refine TL_gq rfl rfl rfl rfl (QV_load rfl one3 (by rw [hb9.cel]; rfl)) ?_
            refine TL_gq rfl rfl rfl rfl (QV_idx1 rfl rfl el37 sz4 (hoks.1)) ?_
            refine TL_gq rfl rfl rfl rfl (QV_load rfl one4 (hz9.bd.cB (by rw [hli.dl]; exact hoks.1))) ?_
            refine TL_gq rfl rfl rfl rfl (QV_not rfl) ?_
            refine TL_q rfl (QV_pickT rfl rfl) ?_
            refine TL_nil ?_
            refine W_cond (c := Operand.tmp 79) (by kernel_rfl) rfl (fun hc79 => ?_) (fun hc79 => ?_)
            ·
              have hd0 : d.getD (D.getD k rl0).head false = false := by simpa using hc79
              refine W_seq (by kernel_rfl) ?_
              -- R18
              refine W_reg (l := [⟨some 80, Op.move (Operand.tmp 9), 37, none⟩, ⟨some 81, Op.fieldAddr 33 (Operand.tmp 15) 0, 0, none⟩, ⟨some 82, Op.load 3 (Operand.tmp 81), 3, none⟩, ⟨some 83, Op.indexAddr 37 (Operand.tmp 80) (Operand.tmp 82), 0, none⟩, ⟨none, Op.store 4 (Operand.tmp 83) (Operand.const (Value.bool true)), 0, none⟩]) (by kernel_rfl) (by kernel_rfl) ?_
              refine TL_q rfl (QV_move rfl) ?_
              refine TL_q rfl (QV_field0 rfl fld33_0) ?_
              refine TL_q rfl (QV_load rfl one3 (by rw [hb9.cel]; rfl)) ?_
              refine TL_q rfl (QV_idx1 rfl rfl el37 sz4 (hoks.1)) ?_
              refine TL_e (EV_store rfl rfl rfl sz4 hz9.bd (by rw [bools_len, hli.dl]; exact hoks.1) fun w10 u10 => ?_)
              have u10b : Upd w9 w10 w.heap.size 4 (bools (d.set (D.getD k rl0).head true)) := by rw [← bools_set]; exact u10
              have hz10 := hz9.setD u10b
              have hb10 := hb9.fr u10.fr (by omega)
              obtain ⟨sa, sc, rfl, -⟩ := hz10.r.form
              refine TL_nil ?_
              -- R19
              refine W_reg (l := [⟨some 84, Op.move (Operand.tmp 13), 27, none⟩, ⟨some 85, Op.fieldAddr 33 (Operand.tmp 15) 0, 0, none⟩, ⟨some 86, Op.load 3 (Operand.tmp 85), 3, none⟩, ⟨some 87, Op.buildSlice 27 1 #[(0, Operand.tmp 86)], 27, none⟩, ⟨some 88, Op.call { callee := Callee.builtin Builtin.append, args := #[Operand.tmp 84, Operand.tmp 87], argTypes := #[27, 27] }, 27, none⟩, ⟨some 13, Op.assign (Operand.tmp 88), 27, none⟩]) (by kernel_rfl) (by kernel_rfl) ?_
              refine TL_q rfl (QV_move rfl) ?_
              refine TL_q rfl (QV_field0 rfl fld33_0) ?_
              refine TL_q rfl (QV_load rfl one3 (by rw [hb10.cel]; rfl)) ?_
              refine TL_e (EV_lit1 rfl rfl rfl el27 in3 rfl fun w11 k11 => ?_)
              refine TL_e (EV_append rfl rfl rfl el27 in3 rfl (by decide) (hz10.r.fr k11.fr (fun _ _ h => h)) rfl (news1 k11.blk) (one1 rfl) (by omega) (by omega) fun v12 w12 hrow h23 hat => ?_)
              have hz12 := hz10.push k11 hrow h23 hat
              have hli2 := hli.push hok hlt hl8 hs8 hv8 hb0 hal0 hd0
              refine TL_q rfl (QV_assign rfl) ?_
              refine TL_nil ?_
              -- R8
              refine W_reg (l := [⟨some 33, Op.move (Operand.tmp 14), 3, none⟩, ⟨some 34, Op.binOp BinOp.add 3 (Operand.tmp 33) (Operand.const (Value.int IntKind.i64 1)) 3, 3, none⟩, ⟨some 14, Op.assign (Operand.tmp 34), 3, none⟩]) (by kernel_rfl) (by kernel_rfl) ?_
              refine TL_q rfl (QV_move rfl) ?_
              refine TL_q rfl (QV_add (r := ((k + 1 : Nat) : Int)) rfl rfl (by omega) (by omega) (by omega)) ?_
              refine TL_q rfl (QV_assign rfl) ?_
              refine TL_nil ?_
              first
                | exact ⟨(k + 1, ⟨_, bl, _, _, v12⟩), ⟨by omega, hli2, hz12⟩, ⟨rfl, rfl, rfl, rfl, rfl, rfl, rfl, rfl, rfl, trivial⟩, by show D.length - (k + 1) < D.length - k; omega⟩
                | exact ⟨(k + 1, ⟨d, bl, _, q, sv⟩), ⟨by omega, hli.pass hok hlt hl8 hs8 hv8 hno, hz9⟩, ⟨rfl, rfl, rfl, rfl, rfl, rfl, rfl, rfl, rfl, trivial⟩, by show D.length - (k + 1) < D.length - k; omega⟩
            ·
              have hno : bl.getD k false = true ∨ (D.getD k rl0).all ≠ [] ∨ d.getD (D.getD k rl0).head false = true := .inr (.inr (by simpa using hc79))
              refine W_skip (by kernel_rfl) ?_
              -- R8
              refine W_reg (l := [⟨some 33, Op.move (Operand.tmp 14), 3, none⟩, ⟨some 34, Op.binOp BinOp.add 3 (Operand.tmp 33) (Operand.const (Value.int IntKind.i64 1)) 3, 3, none⟩, ⟨some 14, Op.assign (Operand.tmp 34), 3, none⟩]) (by kernel_rfl) (by kernel_rfl) ?_
              refine TL_q rfl (QV_move rfl) ?_
              refine TL_q rfl (QV_add (r := ((k + 1 : Nat) : Int)) rfl rfl (by omega) (by omega) (by omega)) ?_
              refine TL_q rfl (QV_assign rfl) ?_
              refine TL_nil ?_
              first
                | exact ⟨(k + 1, ⟨_, bl, _, _, v12⟩), ⟨by omega, hli2, hz12⟩, ⟨rfl, rfl, rfl, rfl, rfl, rfl, rfl, rfl, rfl, trivial⟩, by show D.length - (k + 1) < D.length - k; omega⟩
                | exact ⟨(k + 1, ⟨d, bl, _, q, sv⟩), ⟨by omega, hli.pass hok hlt hl8 hs8 hv8 hno, hz9⟩, ⟨rfl, rfl, rfl, rfl, rfl, rfl, rfl, rfl, rfl, trivial⟩, by show D.length - (k + 1) < D.length - k; omega⟩
          ·
            have hno : bl.getD k false = true ∨ (D.getD k rl0).all ≠ [] ∨ d.getD (D.getD k rl0).head false = true := .inr (.inl (fun e => of_decide_eq_false hb72 (by rw [e]; rfl)))
            refine TL_gs rfl rfl rfl rfl ?_
            refine TL_gs rfl rfl rfl rfl ?_
            refine TL_gs rfl rfl rfl rfl ?_
            refine TL_gs rfl rfl rfl rfl ?_
            refine TL_gs rfl rfl rfl rfl ?_
            refine TL_gs rfl rfl rfl rfl ?_
            refine TL_q rfl (QV_pickF rfl rfl) ?_
            refine TL_nil ?_
            refine W_condF (c := Operand.tmp 79) (by kernel_rfl) rfl ?_
            refine W_skip (by kernel_rfl) ?_
            -- R8
            refine W_reg (l := [⟨some 33, Op.move (Operand.tmp 14), 3, none⟩, ⟨some 34, Op.binOp BinOp.add 3 (Operand.tmp 33) (Operand.const (Value.int IntKind.i64 1)) 3, 3, none⟩, ⟨some 14, Op.assign (Operand.tmp 34), 3, none⟩]) (by kernel_rfl) (by kernel_rfl) ?_
            refine TL_q rfl (QV_move rfl) ?_
            refine TL_q rfl (QV_add (r := ((k + 1 : Nat) : Int)) rfl rfl (by omega) (by omega) (by omega)) ?_
            refine TL_q rfl (QV_assign rfl) ?_
            refine TL_nil ?_
            first
              | exact ⟨(k + 1, ⟨_, bl, _, _, v12⟩), ⟨by omega, hli2, hz12⟩, ⟨rfl, rfl, rfl, rfl, rfl, rfl, rfl, rfl, rfl, trivial⟩, by show D.length - (k + 1) < D.length - k; omega⟩
              | exact ⟨(k + 1, ⟨d, bl, _, q, sv⟩), ⟨by omega, hli.pass hok hlt hl8 hs8 hv8 hno, hz9⟩, ⟨rfl, rfl, rfl, rfl, rfl, rfl, rfl, rfl, rfl, trivial⟩, by show D.length - (k + 1) < D.length - k; omega⟩
        ·
          have hno : bl.getD k false = true ∨ (D.getD k rl0).all ≠ [] ∨ d.getD (D.getD k rl0).head false = true := .inl (by simpa using hb65)
          refine TL_gs rfl rfl rfl rfl ?_
          refine TL_gs rfl rfl rfl rfl ?_
          refine TL_gs rfl rfl rfl rfl ?_
          refine TL_gs rfl rfl rfl rfl ?_
          refine TL_gs rfl rfl rfl rfl ?_
          refine TL_q rfl (QV_pickF rfl rfl) ?_
          refine TL_q rfl (QV_move rfl) ?_
          refine TL_gs rfl rfl rfl rfl ?_
          refine TL_gs rfl rfl rfl rfl ?_
          refine TL_gs rfl rfl rfl rfl ?_
          refine TL_gs rfl rfl rfl rfl ?_
          refine TL_gs rfl rfl rfl rfl ?_
          refine TL_gs rfl rfl rfl rfl ?_
          refine TL_q rfl (QV_pickF rfl rfl) ?_
          refine TL_nil ?_
          refine W_condF (c := Operand.tmp 79) (by kernel_rfl) rfl ?_
          refine W_skip (by kernel_rfl) ?_
          -- R8
          refine W_reg (l := [⟨some 33, Op.move (Operand.tmp 14), 3, none⟩, ⟨some 34, Op.binOp BinOp.add 3 (Operand.tmp 33) (Operand.const (Value.int IntKind.i64 1)) 3, 3, none⟩, ⟨some 14, Op.assign (Operand.tmp 34), 3, none⟩]) (by kernel_rfl) (by kernel_rfl) ?_
          refine TL_q rfl (QV_move rfl) ?_
          refine TL_q rfl (QV_add (r := ((k + 1 : Nat) : Int)) rfl rfl (by omega) (by omega) (by omega)) ?_
          refine TL_q rfl (QV_assign rfl) ?_
          refine TL_nil ?_
          first
            | exact ⟨(k + 1, ⟨_, bl, _, _, v12⟩), ⟨by omega, hli2, hz12⟩, ⟨rfl, rfl, rfl, rfl, rfl, rfl, rfl, rfl, rfl, trivial⟩, by show D.length - (k + 1) < D.length - k; omega⟩
            | exact ⟨(k + 1, ⟨d, bl, _, q, sv⟩), ⟨by omega, hli.pass hok hlt hl8 hs8 hv8 hno, hz9⟩, ⟨rfl, rfl, rfl, rfl, rfl, rfl, rfl, rfl, rfl, trivial⟩, by show D.length - (k + 1) < D.length - k; omega⟩
      ·
        have hfr2 : js.getD ((D.getD k rl0).unl.getD x 0) false = false := hc49
        refine W_skip (by kernel_rfl) ?_
        -- R15
        refine W_reg (l := [⟨some 53, Op.binOp BinOp.add 3 (Operand.tmp 42) (Operand.const (Value.int IntKind.i64 1)) 3, 3, none⟩, ⟨some 42, Op.move (Operand.tmp 53), 3, none⟩]) (by kernel_rfl) (by kernel_rfl) ?_
        refine TL_q rfl (QV_add (r := ((x + 1 : Nat) : Int)) rfl rfl (by omega) (by omega) (by omega)) ?_
        refine TL_q rfl (QV_move rfl) ?_
        refine TL_nil ?_
        exact ⟨x + 1, ⟨by omega, rfl, all_succ hfree hfr2⟩, ⟨rfl, rfl, rfl, rfl, rfl, rfl, rfl, rfl, rfl, rfl, rfl, rfl, rfl, trivial⟩, by omega⟩
    ·
      have hxe : x = (D.getD k rl0).unl.length := by have := of_decide_eq_false hc43; omega
      have hx8 : ∃ bl : List Bool, ZM w w6 d bl cnt sv q ∧ bl.length = D.length ∧ (∀ i, i ≠ k → bl.getD i false = blk.getD i false) ∧ (bl.getD k false = true ↔ ∃ b ∈ (D.getD k rl0).unl, tS js b) := by
        refine ⟨blk, hz6, hli.bl, fun i _ => rfl, ?_⟩
        rw [hli.b0 k (Nat.le_refl _)]
        refine ⟨fun e => (by cases e), ?_⟩
        rintro ⟨b, hb, hJ⟩
        obtain ⟨y, hy, rfl⟩ := List.mem_iff_getElem.1 hb
        have h1 := hfree y (by omega)
        have e9 : (D.getD k rl0).unl.getD y 0 = (D.getD k rl0).unl[y] := by rw [List.getD_eq_getElem?_getD, List.getElem?_eq_getElem hy]; rfl
        rw [e9] at h1
        unfold tS at hJ
        rw [h1] at hJ
        cases hJ
      have hb8 := hb6
      obtain ⟨bl, hz8, hl8, hs8, hv8⟩ := hx8
      refine W_exit 2 (by kernel_rfl) ?_
      show T Try.prog 149 (C Try.f37 [1, 1, 0, 0, 1, 0, 0, 1, 0, 1, 1, 1, 1, 1, 1]) _ _ _
      refine W_seq (by kernel_rfl) ?_
      -- R16
      refine W_reg (l := [⟨some 54, Op.move (Operand.tmp 11), 27, none⟩, ⟨some 55, Op.move (Operand.tmp 14), 3, none⟩, ⟨some 56, Op.fieldAddr 33 (Operand.tmp 15) 1, 0, none⟩, ⟨some 57, Op.load 27 (Operand.tmp 56), 27, none⟩, ⟨some 58, Op.call { callee := Callee.builtin Builtin.len, args := #[Operand.tmp 57], argTypes := #[27] }, 3, none⟩, ⟨some 59, Op.indexAddr 27 (Operand.tmp 54) (Operand.tmp 55), 0, none⟩, ⟨none, Op.store 3 (Operand.tmp 59) (Operand.tmp 58), 0, none⟩]) (by kernel_rfl) (by kernel_rfl) ?_
      refine TL_q rfl (QV_move rfl) ?_
      refine TL_q rfl (QV_move rfl) ?_
      refine TL_q rfl (QV_field rfl fld33_1) ?_
      refine TL_q rfl (QV_load rfl one27 (by rw [hb8.cel]; rfl)) ?_
      refine TL_q rfl (QV_len rfl el27) ?_
      refine TL_q rfl (QV_idx1 rfl rfl el27 sz3 (hlt)) ?_
      refine TL_e (EV_store rfl rfl rfl sz3 hz8.bc (by rw [ints_len, hli.cl]; exact hlt) fun w9 u9 => ?_)
      have u9b := u9.int
      have hz9 := hz8.setC u9b
      have hb9 := hb8.fr u9.fr (by omega)
      have gc9 := hz9.bc.cI (k := k) (by rw [List.length_set, hli.cl]; exact hlt)
      rw [getD_set_eq _ _ _ _ (by rw [hli.cl]; exact hlt)] at gc9
      refine TL_nil ?_
      refine W_seq (by kernel_rfl) ?_
      -- R17
      refine W_reg (l := [⟨some 60, Op.move (Operand.tmp 12), 37, none⟩, ⟨some 61, Op.move (Operand.tmp 14), 3, none⟩, ⟨some 62, Op.indexAddr 37 (Operand.tmp 60) (Operand.tmp 61), 0, none⟩, ⟨some 63, Op.load 4 (Operand.tmp 62), 4, none⟩, ⟨some 64, Op.unOp UnOp.not 4 (Operand.tmp 63), 4, none⟩, ⟨some 65, Op.move (Operand.tmp 64), 4, none⟩, ⟨some 66, Op.move (Operand.tmp 11), 27, some (5, true)⟩, ⟨some 67, Op.move (Operand.tmp 14), 3, some (5, true)⟩, ⟨some 68, Op.indexAddr 27 (Operand.tmp 66) (Operand.tmp 67), 0, some (5, true)⟩, ⟨some 69, Op.load 3 (Operand.tmp 68), 3, some (5, true)⟩, ⟨some 70, Op.binOp BinOp.eql 3 (Operand.tmp 69) (Operand.const (Value.int IntKind.i64 0)) 3, 4, some (5, true)⟩, ⟨some 71, Op.pick (Operand.tmp 65) (Operand.tmp 70) (Operand.const (Value.bool false)), 4, none⟩, ⟨some 72, Op.move (Operand.tmp 71), 4, none⟩, ⟨some 73, Op.move (Operand.tmp 9), 37, some (12, true)⟩, ⟨some 74, Op.fieldAddr 33 (Operand.tmp 15) 0, 0, some (12, true)⟩, ⟨some 75, Op.load 3 (Operand.tmp 74), 3, some (12, true)⟩, ⟨some 76, Op.indexAddr 37 (Operand.tmp 73) (Operand.tmp 75), 0, some (12, true)⟩, ⟨some 77, Op.load 4 (Operand.tmp 76), 4, some (12, true)⟩, ⟨some 78, Op.unOp UnOp.not 4 (Operand.tmp 77), 4, some (12, true)⟩, ⟨some 79, Op.pick (Operand.tmp 72) (Operand.tmp 78) (Operand.const (Value.bool false)), 4, none⟩]) (by kernel_rfl) (by kernel_rfl) ?_
      refine TL_q rfl (QV_move rfl) ?_
      refine TL_q rfl (QV_move rfl) ?_
      refine TL_q rfl (QV_idx1 rfl rfl el37 sz4 (hlt)) ?_
      refine TL_q rfl (QV_load rfl one4 (hz9.bb.cB (by rw [hl8]; exact hlt))) ?_
      refine TL_q rfl (QV_not rfl) ?_
      refine TL_q rfl (QV_move rfl) ?_
      refine TL_cases (t := 65) rfl (fun hb65 => ?_) (fun hb65 => ?_)
      ·
        have hb0 : bl.getD k false = false := by simpa using hb65
        refine TL_gq rfl rfl rfl rfl (QV_move rfl) ?_
        refine TL_gq rfl rfl rfl rfl (QV_move rfl) ?_
        refine TL_gq rfl rfl rfl rfl (QV_idx1 rfl rfl el27 sz3 (hlt)) ?_
        refine TL_gq rfl rfl rfl rfl (QV_load rfl one3 (gc9)) ?_
        refine TL_gq rfl rfl rfl rfl (QV_eql rfl rfl) ?_
        refine TL_q rfl (QV_pickT rfl rfl) ?_
        refine TL_q rfl (QV_move rfl) ?_
        refine TL_cases (t := 72) rfl (fun hb72 => ?_) (fun hb72 => ?_)
        ·
          have hal0 : (D.getD k rl0).all = [] := List.length_eq_zero_iff.1 (by have := of_decide_eq_true hb72; omega)
          refine TL_gq rfl rfl rfl rfl (QV_move rfl) ?_
          refine TL_gq rfl rfl rfl rfl (QV_field0 rfl fld33_0) ?_
          refine TL_gq rfl rfl rfl rfl (QV_load rfl one3 (by rw [hb9.cel]; rfl)) ?_
          refine TL_gq rfl rfl rfl rfl (QV_idx1 rfl rfl el37 sz4 (hoks.1)) ?_
          refine TL_gq rfl rfl rfl rfl (QV_load rfl one4 (hz9.bd.cB (by rw [hli.dl]; exact hoks.1))) ?_
          refine TL_gq rfl rfl rfl rfl (QV_not rfl) ?_
          refine TL_q rfl (QV_pickT rfl rfl) ?_
          refine TL_nil ?_
          refine W_cond (c := Operand.tmp 79) (by kernel_rfl) rfl (fun hc79 => ?_) (fun hc79 => ?_)
          ·
            have hd0 : d.getD (D.getD k rl0).head false = false := by simpa using hc79
            refine W_seq (by kernel_rfl) ?_
            -- R18
            refine W_reg (l := [⟨some 80, Op.move (Operand.tmp 9), 37, none⟩, ⟨some 81, Op.fieldAddr 33 (Operand.tmp 15) 0, 0, none⟩, ⟨some 82, Op.load 3 (Operand.tmp 81), 3, none⟩, ⟨some 83, Op.indexAddr 37 (Operand.tmp 80) (Operand.tmp 82), 0, none⟩, ⟨none, Op.store 4 (Operand.tmp 83) (Operand.const (Value.bool true)), 0, none⟩]) (by kernel_rfl) (by kernel_rfl) ?_
            refine TL_q rfl (QV_move rfl) ?_
            refine TL_q rfl (QV_field0 rfl fld33_0) ?_
            refine TL_q rfl (QV_load rfl one3 (by rw [hb9.cel]; rfl)) ?_
            refine TL_q rfl (QV_idx1 rfl rfl el37 sz4 (hoks.1)) ?_
            refine TL_e (EV_store rfl rfl rfl sz4 hz9.bd (by rw [bools_len, hli.dl]; exact hoks.1) fun w10 u10 => ?_)
            have u10b : Upd w9 w10 w.heap.size 4 (bools (d.set (D.getD k rl0).head true)) := by rw [← bools_set]; exact u10
            have hz10 := hz9.setD u10b
            have hb10 := hb9.fr u10.fr (by omega)
            obtain ⟨sa, sc, rfl, -⟩ := hz10.r.form
            refine TL_nil ?_
            -- R19
            refine W_reg (l := [⟨some 84, Op.move (Operand.tmp 13), 27, none⟩, ⟨some 85, Op.fieldAddr 33 (Operand.tmp 15) 0, 0, none⟩, ⟨some 86, Op.load 3 (Operand.tmp 85), 3, none⟩, ⟨some 87, Op.buildSlice 27 1 #[(0, Operand.tmp 86)], 27, none⟩, ⟨some 88, Op.call { callee := Callee.builtin Builtin.append, args := #[Operand.tmp 84, Operand.tmp 87], argTypes := #[27, 27] }, 27, none⟩, ⟨some 13, Op.assign (Operand.tmp 88), 27, none⟩]) (by kernel_rfl) (by kernel_rfl) ?_
            refine TL_q rfl (QV_move rfl) ?_
            refine TL_q rfl (QV_field0 rfl fld33_0) ?_
            refine TL_q rfl (QV_load rfl one3 (by rw [hb10.cel]; rfl)) ?_
            refine TL_e (EV_lit1 rfl rfl rfl el27 in3 rfl fun w11 k11 => ?_)
            refine TL_e (EV_append rfl rfl rfl el27 in3 rfl (by decide) (hz10.r.fr k11.fr (fun _ _ h => h)) rfl (news1 k11.blk) (one1 rfl) (by omega) (by omega) fun v12 w12 hrow h23 hat => ?_)
            have hz12 := hz10.push k11 hrow h23 hat
            have hli2 := hli.push hok hlt hl8 hs8 hv8 hb0 hal0 hd0
            refine TL_q rfl (QV_assign rfl) ?_
            refine TL_nil ?_
            -- R8
            refine W_reg (l := [⟨some 33, Op.move (Operand.tmp 14), 3, none⟩, ⟨some 34, Op.binOp BinOp.add 3 (Operand.tmp 33) (Operand.const (Value.int IntKind.i64 1)) 3, 3, none⟩, ⟨some 14, Op.assign (Operand.tmp 34), 3, none⟩]) (by kernel_rfl) (by kernel_rfl) ?_
            refine TL_q rfl (QV_move rfl) ?_
            refine TL_q rfl (QV_add (r := ((k + 1 : Nat) : Int)) rfl rfl (by omega) (by omega) (by omega)) ?_
            refine TL_q rfl (QV_assign rfl) ?_
            refine TL_nil ?_
            first
              | exact ⟨(k + 1, ⟨_, bl, _, _, v12⟩), ⟨by omega, hli2, hz12⟩, ⟨rfl, rfl, rfl, rfl, rfl, rfl, rfl, rfl, rfl, trivial⟩, by show D.length - (k + 1) < D.length - k; omega⟩
              | exact ⟨(k + 1, ⟨d, bl, _, q, sv⟩), ⟨by omega, hli.pass hok hlt hl8 hs8 hv8 hno, hz9⟩, ⟨rfl, rfl, rfl, rfl, rfl, rfl, rfl, rfl, rfl, trivial⟩, by show D.length - (k + 1) < D.length - k; omega⟩
          ·
            have hno : bl.getD k false = true ∨ (D.getD k rl0).all ≠ [] ∨ d.getD (D.getD k rl0).head false = true := .inr (.inr (by simpa using hc79))
            refine W_skip (by kernel_rfl) ?_
            -- R8
            refine W_reg (l := [⟨some 33, Op.move (Operand.tmp 14), 3, none⟩, ⟨some 34, Op.binOp BinOp.add 3 (Operand.tmp 33) (Operand.const (Value.int IntKind.i64 1)) 3, 3, none⟩, ⟨some 14, Op.assign (Operand.tmp 34), 3, none⟩]) (by kernel_rfl) (by kernel_rfl) ?_
            refine TL_q rfl (QV_move rfl) ?_
            refine TL_q rfl (QV_add (r := ((k + 1 : Nat) : Int)) rfl rfl (by omega) (by omega) (by omega)) ?_
            refine TL_q rfl (QV_assign rfl) ?_
            refine TL_nil ?_
            first
              | exact ⟨(k + 1, ⟨_, bl, _, _, v12⟩), ⟨by omega, hli2, hz12⟩, ⟨rfl, rfl, rfl, rfl, rfl, rfl, rfl, rfl, rfl, trivial⟩, by show D.length - (k + 1) < D.length - k; omega⟩
              | exact ⟨(k + 1, ⟨d, bl, _, q, sv⟩), ⟨by omega, hli.pass hok hlt hl8 hs8 hv8 hno, hz9⟩, ⟨rfl, rfl, rfl, rfl, rfl, rfl, rfl, rfl, rfl, trivial⟩, by show D.length - (k + 1) < D.length - k; omega⟩
        ·
          have hno : bl.getD k false = true ∨ (D.getD k rl0).all ≠ [] ∨ d.getD (D.getD k rl0).head false = true := .inr (.inl (fun e => of_decide_eq_false hb72 (by rw [e]; rfl)))
          refine TL_gs rfl rfl rfl rfl ?_
          refine TL_gs rfl rfl rfl rfl ?_
          refine TL_gs rfl rfl rfl rfl ?_
          refine TL_gs rfl rfl rfl rfl ?_
          refine TL_gs rfl rfl rfl rfl ?_
          refine TL_gs rfl rfl rfl rfl ?_
          refine TL_q rfl (QV_pickF rfl rfl) ?_
          refine TL_nil ?_
          refine W_condF (c := Operand.tmp 79) (by kernel_rfl) rfl ?_
          refine W_skip (by kernel_rfl) ?_
          -- R8
          refine W_reg (l := [⟨some 33, Op.move (Operand.tmp 14), 3, none⟩, ⟨some 34, Op.binOp BinOp.add 3 (Operand.tmp 33) (Operand.const (Value.int IntKind.i64 1)) 3, 3, none⟩, ⟨some 14, Op.assign (Operand.tmp 34), 3, none⟩]) (by kernel_rfl) (by kernel_rfl) ?_
          refine TL_q rfl (QV_move rfl) ?_
          refine TL_q rfl (QV_add (r := ((k + 1 : Nat) : Int)) rfl rfl (by omega) (by omega) (by omega)) ?_
          refine TL_q rfl (QV_assign rfl) ?_
          refine TL_nil ?_
          first
            | exact ⟨(k + 1, ⟨_, bl, _, _, v12⟩), ⟨by omega, hli2, hz12⟩, ⟨rfl, rfl, rfl, rfl, rfl, rfl, rfl, rfl, rfl, trivial⟩, by show D.length - (k + 1) < D.length - k; omega⟩
            | exact ⟨(k + 1, ⟨d, bl, _, q, sv⟩), ⟨by omega, hli.pass hok hlt hl8 hs8 hv8 hno, hz9⟩, ⟨rfl, rfl, rfl, rfl, rfl, rfl, rfl, rfl, rfl, trivial⟩, by show D.length - (k + 1) < D.length - k; omega⟩
      ·
        have hno : bl.getD k false = true ∨ (D.getD k rl0).all ≠ [] ∨ d.getD (D.getD k rl0).head false = true := .inl (by simpa using hb65)
        refine TL_gs rfl rfl rfl rfl ?_
        refine TL_gs rfl rfl rfl rfl ?_
        refine TL_gs rfl rfl rfl rfl ?_
        refine TL_gs rfl rfl rfl rfl ?_
        refine TL_gs rfl rfl rfl rfl ?_
        refine TL_q rfl (QV_pickF rfl rfl) ?_
        refine TL_q rfl (QV_move rfl) ?_
        refine TL_gs rfl rfl rfl rfl ?_
        refine TL_gs rfl rfl rfl rfl ?_
        refine TL_gs rfl rfl rfl rfl ?_
        refine TL_gs rfl rfl rfl rfl ?_
        refine TL_gs rfl rfl rfl rfl ?_
        refine TL_gs rfl rfl rfl rfl ?_
        refine TL_q rfl (QV_pickF rfl rfl) ?_
        refine TL_nil ?_
        refine W_condF (c := Operand.tmp 79) (by kernel_rfl) rfl ?_
        refine W_skip (by kernel_rfl) ?_
        -- R8
        refine W_reg (l := [⟨some 33, Op.move (Operand.tmp 14), 3, none⟩, ⟨some 34, Op.binOp BinOp.add 3 (Operand.tmp 33) (Operand.const (Value.int IntKind.i64 1)) 3, 3, none⟩, ⟨some 14, Op.assign (Operand.tmp 34), 3, none⟩]) (by kernel_rfl) (by kernel_rfl) ?_
        refine TL_q rfl (QV_move rfl) ?_
        refine TL_q rfl (QV_add (r := ((k + 1 : Nat) : Int)) rfl rfl (by omega) (by omega) (by omega)) ?_
        refine TL_q rfl (QV_assign rfl) ?_
        refine TL_nil ?_
        first
          | exact ⟨(k + 1, ⟨_, bl, _, _, v12⟩), ⟨by omega, hli2, hz12⟩, ⟨rfl, rfl, rfl, rfl, rfl, rfl, rfl, rfl, rfl, trivial⟩, by show D.length - (k + 1) < D.length - k; omega⟩
          | exact ⟨(k + 1, ⟨d, bl, _, q, sv⟩), ⟨by omega, hli.pass hok hlt hl8 hs8 hv8 hno, hz9⟩, ⟨rfl, rfl, rfl, rfl, rfl, rfl, rfl, rfl, rfl, trivial⟩, by show D.length - (k + 1) < D.length - k; omega⟩
  ·
    have hke : k = D.length := by have := of_decide_eq_false hc32; omega
    have hlm : LM D n (tS js) blk d cnt [] q [] := LI.main (by rw [hke] at hli; exact hli)
    have hbl := hli.bl
    refine W_exit 0 (by kernel_rfl) ?_
    show T Try.prog 149 (C Try.f37 [1, 1, 1, 1, 1, 1, 1]) _ _ _
    refine W_seq (by kernel_rfl) ?_
    refine W_block 4 (by kernel_rfl) ?_
    refine W_loop (ι := ZT) (fun i w5 => LM D n (tS js) blk i.d i.cnt i.dn i.q [] ∧ ZM w w5 i.d blk i.cnt i.sv i.q) (fun i => [(1, .slice ra D.length rc), (2, .slice (some ⟨tu, 0, none⟩) n n), (9, .slice (some ⟨w.heap.size, 0, none⟩) n n), (11, .slice (some ⟨w.heap.size + 1, 0, none⟩) D.length D.length), (12, .slice (some ⟨w.heap.size + 2, 0, none⟩) D.length D.length), (13, i.sv)]) (fun i => n - i.dn.length) ⟨d, cnt, [], q, sv⟩ (by kernel_rfl) ?_ ?_ ?_
    · exact ⟨hlm, hz⟩
    · exact ⟨rfl, rfl, rfl, rfl, rfl, rfl, trivial⟩
    rintro ⟨d5, cn5, dn, q5, sv5⟩ w5 ⟨hlm5, hz5⟩
    dsimp only at hlm5 hz5 ⊢
    obtain ⟨sa, sc, rfl, hsc⟩ := hz5.r.form
    have hln := hlm5.len
    refine W_seq (by kernel_rfl) ?_
    refine W_seq (by kernel_rfl) ?_
    -- R20
    refine W_reg (l := [⟨some 89, Op.move (Operand.tmp 13), 27, none⟩, ⟨some 90, Op.call { callee := Callee.builtin Builtin.len, args := #[Operand.tmp 89], argTypes := #[27] }, 3, none⟩, ⟨some 91, Op.binOp BinOp.gtr 3 (Operand.tmp 90) (Operand.const (Value.int IntKind.i64 0)) 3, 4, none⟩]) (by kernel_rfl) (by kernel_rfl) ?_
    refine TL_q rfl (QV_move rfl) ?_
    refine TL_q rfl (QV_len rfl el27) ?_
    refine TL_q rfl (QV_gtr rfl rfl) ?_
    refine TL_nil ?_
    refine W_cond (c := Operand.tmp 91) (by kernel_rfl) rfl (fun hc91 => ?_) (fun hc91 => ?_)
    ·
      have hpos : 0 < q5.length := by have := of_decide_eq_true hc91; omega
      obtain ⟨qq, a, hqr⟩ := eq_snoc hpos
      subst hqr
      have hql : (qq ++ [a]).length = qq.length + 1 := by simp
      have hdl : (dn ++ [a]).length = dn.length + 1 := by simp
      have hz5b := hz5
      have hrr := hz5.r
      rw [hql] at hz5b hrr
      obtain ⟨sg, rfl, hsc2, htop⟩ := hrr.last
      have hz6 := hz5b.pop
      have hul := (hlm5.pop hok hl).ul
      have hlm6 : LM D n (tS js) blk d5 cn5 (dn ++ [a]) qq (((idxU D n D.length).getD a []).drop 0) := hlm5.pop hok hl
      have han := hlm5.lt a (by simp)
      obtain ⟨va, hva, hints⟩ := htab a han
      obtain ⟨qa, qc, rfl, hqc, hrow⟩ := hints.nat
      refine W_skip (by kernel_rfl) ?_
      refine W_block 5 (by kernel_rfl) ?_
      refine W_seq (by kernel_rfl) ?_
      -- R21
      refine W_reg (l := [⟨some 92, Op.move (Operand.tmp 13), 27, none⟩, ⟨some 93, Op.move (Operand.tmp 13), 27, none⟩, ⟨some 94, Op.call { callee := Callee.builtin Builtin.len, args := #[Operand.tmp 93], argTypes := #[27] }, 3, none⟩, ⟨some 95, Op.binOp BinOp.sub 3 (Operand.tmp 94) (Operand.const (Value.int IntKind.i64 1)) 3, 3, none⟩, ⟨some 96, Op.indexAddr 27 (Operand.tmp 92) (Operand.tmp 95), 0, none⟩, ⟨some 97, Op.load 3 (Operand.tmp 96), 3, none⟩, ⟨some 18, Op.assign (Operand.tmp 97), 3, none⟩]) (by kernel_rfl) (by kernel_rfl) ?_
      refine TL_q rfl (QV_move rfl) ?_
      refine TL_q rfl (QV_move rfl) ?_
      refine TL_q rfl (QV_len rfl el27) ?_
      refine TL_q rfl (QV_sub (r := ((qq.length : Nat) : Int)) rfl rfl (by omega) (by omega) (by omega)) ?_
      refine TL_q rfl (QV_idx1 rfl rfl el27 sz3 (by omega)) ?_
      refine TL_q rfl (QV_load rfl one3 (htop)) ?_
      refine TL_q rfl (QV_assign rfl) ?_
      refine TL_nil ?_
      refine W_seq (by kernel_rfl) ?_
      -- R22
      refine W_reg (l := [⟨some 98, Op.move (Operand.tmp 13), 27, none⟩, ⟨some 99, Op.move (Operand.tmp 13), 27, none⟩, ⟨some 100, Op.call { callee := Callee.builtin Builtin.len, args := #[Operand.tmp 99], argTypes := #[27] }, 3, none⟩, ⟨some 101, Op.binOp BinOp.sub 3 (Operand.tmp 100) (Operand.const (Value.int IntKind.i64 1)) 3, 3, none⟩, ⟨some 102, Op.slice 27 (Operand.tmp 98) none (some (Operand.tmp 101)) none, 27, none⟩, ⟨some 13, Op.assign (Operand.tmp 102), 27, none⟩]) (by kernel_rfl) (by kernel_rfl) ?_
      refine TL_q rfl (QV_move rfl) ?_
      refine TL_q rfl (QV_move rfl) ?_
      refine TL_q rfl (QV_len rfl el27) ?_
      refine TL_q rfl (QV_sub (r := ((qq.length : Nat) : Int)) rfl rfl (by omega) (by omega) (by omega)) ?_
      refine TL_q rfl (QV_sliceTo rfl rfl el27 sz3 (by omega)) ?_
      refine TL_q rfl (QV_assign rfl) ?_
      refine TL_nil ?_
      refine W_seq (by kernel_rfl) ?_
      -- R23
      refine W_reg (l := [⟨some 103, Op.move (Operand.tmp 2), 34, none⟩, ⟨some 104, Op.move (Operand.tmp 18), 3, none⟩, ⟨some 105, Op.indexAddr 34 (Operand.tmp 103) (Operand.tmp 104), 0, none⟩, ⟨some 106, Op.load 27 (Operand.tmp 105), 27, none⟩, ⟨some 107, Op.call { callee := Callee.builtin Builtin.len, args := #[Operand.tmp 106], argTypes := #[27] }, 3, none⟩, ⟨some 108, Op.move (Operand.const (Value.int IntKind.i64 0)), 3, none⟩]) (by kernel_rfl) (by kernel_rfl) ?_
      refine TL_q rfl (QV_move rfl) ?_
      refine TL_q rfl (QV_move rfl) ?_
      refine TL_q rfl (QV_idx1 rfl rfl el34 sz27 (han)) ?_
      refine TL_q rfl (QV_load rfl one27 (cel_fr hva hz6.f (fun h => h))) ?_
      refine TL_q rfl (QV_len rfl el27) ?_
      refine TL_q rfl (QV_move rfl) ?_
      refine TL_nil ?_
      refine W_block 6 (by kernel_rfl) ?_
      refine W_loop (ι := Nat × ZV) (fun x w7 => x.1 ≤ ((idxU D n D.length).getD a []).length ∧ LM D n (tS js) blk x.2.d x.2.cnt (dn ++ [a]) x.2.q (((idxU D n D.length).getD a []).drop x.1) ∧ ZM w w7 x.2.d blk x.2.cnt x.2.sv x.2.q) (fun x => [(1, .slice ra D.length rc), (2, .slice (some ⟨tu, 0, none⟩) n n), (9, .slice (some ⟨w.heap.size, 0, none⟩) n n), (11, .slice (some ⟨w.heap.size + 1, 0, none⟩) D.length D.length), (12, .slice (some ⟨w.heap.size + 2, 0, none⟩) D.length D.length), (13, x.2.sv), (106, .slice qa ((idxU D n D.length).getD a []).length qc), (107, .int .i64 (((idxU D n D.length).getD a []).length : Nat)), (108, .int .i64 (x.1 : Int))]) (fun x => ((idxU D n D.length).getD a []).length - x.1) (0, ⟨d5, cn5, qq, .slice (some ⟨sg, 0, none⟩) qq.length sc⟩) (by kernel_rfl) ?_ ?_ ?_
      · exact ⟨Nat.zero_le _, hlm6, hz6⟩
      · exact ⟨rfl, rfl, rfl, rfl, rfl, rfl, rfl, rfl, rfl, trivial⟩
      rintro ⟨x, d7, cn7, q7, sv7⟩ w7 ⟨hx, hlm7, hz7⟩
      dsimp only at hx hlm7 hz7 ⊢
      have hln7 := hlm7.len
      refine W_seq (by kernel_rfl) ?_
      -- R24
      refine W_reg (l := [⟨some 109, Op.binOp BinOp.lss 3 (Operand.tmp 108) (Operand.tmp 107) 3, 0, none⟩]) (by kernel_rfl) (by kernel_rfl) ?_
      refine TL_q rfl (QV_lss rfl rfl) ?_
      refine TL_nil ?_
      refine W_seq (by kernel_rfl) ?_
      refine W_cond (c := Operand.tmp 109) (by kernel_rfl) rfl (fun hc109 => ?_) (fun hc109 => ?_)
      ·
        have hxl : x < ((idxU D n D.length).getD a []).length := by have := of_decide_eq_true hc109; omega
        obtain ⟨b1, o1, rfl, hb1C, hc1⟩ := hrow (by omega)
        rw [drop_getD _ x 0 hxl] at hlm7
        obtain ⟨hul7, hp1, hp2⟩ := hlm7.pos hl
        obtain ⟨rb, ro, rfl, hrB, hrc2⟩ := hrul (by omega)
        obtain ⟨g1, -⟩ := hrc2 _ hul7
        have hhn := (hok _ (getD_mem rl0 hul7)).1
        refine W_skip (by kernel_rfl) ?_
        refine W_seq (by kernel_rfl) ?_
        refine W_block 7 (by kernel_rfl) ?_
        refine W_seq (by kernel_rfl) ?_
        -- R25
        refine W_reg (l := [⟨some 110, Op.indexAddr 27 (Operand.tmp 106) (Operand.tmp 108), 0, none⟩, ⟨some 111, Op.load 3 (Operand.tmp 110), 3, none⟩, ⟨some 20, Op.assign (Operand.tmp 111), 3, none⟩]) (by kernel_rfl) (by kernel_rfl) ?_
        refine TL_q rfl (QV_idxO rfl rfl el27 sz3 (hxl)) ?_
        refine TL_q rfl (QV_load rfl one3 (cel_fr (hc1 x hxl) hz7.f (fun h => h))) ?_
        refine TL_q rfl (QV_assign rfl) ?_
        refine TL_nil ?_
        refine W_seq (by kernel_rfl) ?_
        -- R26
        refine W_reg (l := [⟨some 112, Op.move (Operand.tmp 11), 27, none⟩, ⟨some 113, Op.move (Operand.tmp 20), 3, none⟩, ⟨some 114, Op.indexAddr 27 (Operand.tmp 112) (Operand.tmp 113), 0, none⟩, ⟨some 115, Op.load 3 (Operand.tmp 114), 3, none⟩, ⟨some 116, Op.binOp BinOp.sub 3 (Operand.tmp 115) (Operand.const (Value.int IntKind.i64 1)) 3, 3, none⟩, ⟨some 117, Op.indexAddr 27 (Operand.tmp 112) (Operand.tmp 113), 0, none⟩, ⟨none, Op.store 3 (Operand.tmp 117) (Operand.tmp 116), 0, none⟩]) (by kernel_rfl) (by kernel_rfl) ?_
        refine TL_q rfl (QV_move rfl) ?_
        refine TL_q rfl (QV_move rfl) ?_
        refine TL_q rfl (QV_idx1 rfl rfl el27 sz3 (hul7)) ?_
        refine TL_q rfl (QV_load rfl one3 (hz7.bc.cI (by rw [hlm7.cl]; exact hul7))) ?_
        refine TL_q rfl (QV_sub (r := (cn7.getD (((idxU D n D.length).getD a []).getD x 0) 0 - 1 : Int)) rfl rfl (by omega) (by omega) (by omega)) ?_
        refine TL_q rfl (QV_idx1 rfl rfl el27 sz3 (hul7)) ?_
        refine TL_e (EV_store rfl rfl rfl sz3 hz7.bc (by rw [ints_len, hlm7.cl]; exact hul7) fun w8 u8 => ?_)
        have u8b : Upd w7 w8 (w.heap.size + 1) 3 (ints (cn7.set (((idxU D n D.length).getD a []).getD x 0) (cn7.getD (((idxU D n D.length).getD a []).getD x 0) 0 - 1))) := by rw [← ints_set]; exact u8
        have hz8 := hz7.setC u8b
        have gc8 := hz8.bc.cI (k := (((idxU D n D.length).getD a []).getD x 0)) (by rw [List.length_set, hlm7.cl]; exact hul7)
        rw [getD_set_eq _ _ _ _ (by rw [hlm7.cl]; exact hul7)] at gc8
        refine TL_nil ?_
        refine W_seq (by kernel_rfl) ?_
        -- R27
        refine W_reg (l := [⟨some 118, Op.move (Operand.tmp 11), 27, none⟩, ⟨some 119, Op.move (Operand.tmp 20), 3, none⟩, ⟨some 120, Op.indexAddr 27 (Operand.tmp 118) (Operand.tmp 119), 0, none⟩, ⟨some 121, Op.load 3 (Operand.tmp 120), 3, none⟩, ⟨some 122, Op.binOp BinOp.eql 3 (Operand.tmp 121) (Operand.const (Value.int IntKind.i64 0)) 3, 4, none⟩, ⟨some 123, Op.move (Operand.tmp 122), 4, none⟩, ⟨some 124, Op.move (Operand.tmp 12), 37, some (5, true)⟩, ⟨some 125, Op.move (Operand.tmp 20), 3, some (5, true)⟩, ⟨some 126, Op.indexAddr 37 (Operand.tmp 124) (Operand.tmp 125), 0, some (5, true)⟩, ⟨some 127, Op.load 4 (Operand.tmp 126), 4, some (5, true)⟩, ⟨some 128, Op.unOp UnOp.not 4 (Operand.tmp 127), 4, some (5, true)⟩, ⟨some 129, Op.pick (Operand.tmp 123) (Operand.tmp 128) (Operand.const (Value.bool false)), 4, none⟩]) (by kernel_rfl) (by kernel_rfl) ?_
        refine TL_q rfl (QV_move rfl) ?_
        refine TL_q rfl (QV_move rfl) ?_
        refine TL_q rfl (QV_idx1 rfl rfl el27 sz3 (hul7)) ?_
        refine TL_q rfl (QV_load rfl one3 (gc8)) ?_
        refine TL_q rfl (QV_eql rfl rfl) ?_
        refine TL_q rfl (QV_move rfl) ?_
        refine TL_cases (t := 123) rfl (fun hb123 => ?_) (fun hb123 => ?_)
        ·
          have hc0 := of_decide_eq_true hb123
          refine TL_gq rfl rfl rfl rfl (QV_move rfl) ?_
          refine TL_gq rfl rfl rfl rfl (QV_move rfl) ?_
          refine TL_gq rfl rfl rfl rfl (QV_idx1 rfl rfl el37 sz4 (hul7)) ?_
          refine TL_gq rfl rfl rfl rfl (QV_load rfl one4 (hz8.bb.cB (by rw [hbl]; exact hul7))) ?_
          refine TL_gq rfl rfl rfl rfl (QV_not rfl) ?_
          refine TL_q rfl (QV_pickT rfl rfl) ?_
          refine TL_nil ?_
          refine W_cond (c := Operand.tmp 129) (by kernel_rfl) rfl (fun hc129 => ?_) (fun hc129 => ?_)
          ·
            have hb0 : blk.getD (((idxU D n D.length).getD a []).getD x 0) false = false := by simpa using hc129
            refine W_seq (by kernel_rfl) ?_
            -- R28
            refine W_reg (l := [⟨some 130, Op.move (Operand.tmp 1), 22, none⟩, ⟨some 131, Op.move (Operand.tmp 20), 3, none⟩, ⟨some 132, Op.indexAddr 22 (Operand.tmp 130) (Operand.tmp 131), 0, none⟩, ⟨some 133, Op.fieldAddr 33 (Operand.tmp 132) 0, 0, none⟩, ⟨some 134, Op.load 3 (Operand.tmp 133), 3, none⟩, ⟨some 21, Op.assign (Operand.tmp 134), 3, none⟩]) (by kernel_rfl) (by kernel_rfl) ?_
            refine TL_q rfl (QV_move rfl) ?_
            refine TL_q rfl (QV_move rfl) ?_
            refine TL_q rfl (QV_idx rfl rfl el22 sz33 (hul7)) ?_
            refine TL_q rfl (QV_field0 rfl fld33_0) ?_
            refine TL_q rfl (QV_load rfl one3 (cel_fr g1 hz8.f (fun h => h))) ?_
            refine TL_q rfl (QV_assign rfl) ?_
            refine TL_nil ?_
            refine W_seq (by kernel_rfl) ?_
            -- R29
            refine W_reg (l := [⟨some 135, Op.move (Operand.tmp 9), 37, none⟩, ⟨some 136, Op.move (Operand.tmp 21), 3, none⟩, ⟨some 137, Op.indexAddr 37 (Operand.tmp 135) (Operand.tmp 136), 0, none⟩, ⟨some 138, Op.load 4 (Operand.tmp 137), 4, none⟩, ⟨some 139, Op.unOp UnOp.not 4 (Operand.tmp 138), 4, none⟩]) (by kernel_rfl) (by kernel_rfl) ?_
            refine TL_q rfl (QV_move rfl) ?_
            refine TL_q rfl (QV_move rfl) ?_
            refine TL_q rfl (QV_idx1 rfl rfl el37 sz4 (hhn)) ?_
            refine TL_q rfl (QV_load rfl one4 (hz8.bd.cB (by rw [hlm7.dl]; exact hhn))) ?_
            refine TL_q rfl (QV_not rfl) ?_
            refine TL_nil ?_
            refine W_cond (c := Operand.tmp 139) (by kernel_rfl) rfl (fun hc139 => ?_) (fun hc139 => ?_)
            ·
              have hd0 : d7.getD (D.getD (((idxU D n D.length).getD a []).getD x 0) rl0).head false = false := by simpa using hc139
              refine W_seq (by kernel_rfl) ?_
              -- R30
              refine W_reg (l := [⟨some 140, Op.move (Operand.tmp 9), 37, none⟩, ⟨some 141, Op.move (Operand.tmp 21), 3, none⟩, ⟨some 142, Op.indexAddr 37 (Operand.tmp 140) (Operand.tmp 141), 0, none⟩, ⟨none, Op.store 4 (Operand.tmp 142) (Operand.const (Value.bool true)), 0, none⟩]) (by kernel_rfl) (by kernel_rfl) ?_
              refine TL_q rfl (QV_move rfl) ?_
              refine TL_q rfl (QV_move rfl) ?_
              refine TL_q rfl (QV_idx1 rfl rfl el37 sz4 (hhn)) ?_
              refine TL_e (EV_store rfl rfl rfl sz4 hz8.bd (by rw [bools_len, hlm7.dl]; exact hhn) fun w9 u9 => ?_)
              have u9b : Upd w8 w9 w.heap.size 4 (bools (d7.set (D.getD (((idxU D n D.length).getD a []).getD x 0) rl0).head true)) := by rw [← bools_set]; exact u9
              have hz9 := hz8.setD u9b
              obtain ⟨sa7, sc7, rfl, -⟩ := hz9.r.form
              refine TL_nil ?_
              -- R31
              refine W_reg (l := [⟨some 143, Op.move (Operand.tmp 13), 27, none⟩, ⟨some 144, Op.move (Operand.tmp 21), 3, none⟩, ⟨some 145, Op.buildSlice 27 1 #[(0, Operand.tmp 144)], 27, none⟩, ⟨some 146, Op.call { callee := Callee.builtin Builtin.append, args := #[Operand.tmp 143, Operand.tmp 145], argTypes := #[27, 27] }, 27, none⟩, ⟨some 13, Op.assign (Operand.tmp 146), 27, none⟩]) (by kernel_rfl) (by kernel_rfl) ?_
              refine TL_q rfl (QV_move rfl) ?_
              refine TL_q rfl (QV_move rfl) ?_
              refine TL_e (EV_lit1 rfl rfl rfl el27 in3 rfl fun w10 k10 => ?_)
              refine TL_e (EV_append rfl rfl rfl el27 in3 rfl (by decide) (hz9.r.fr k10.fr (fun _ _ h => h)) rfl (news1 k10.blk) (one1 rfl) (by omega) (by omega) fun v11 w11 hrow7 h23 hat => ?_)
              have hz11 := hz9.push k10 hrow7 h23 hat
              have hlm8 := hlm7.push hok hc0 hb0 hd0
              refine TL_q rfl (QV_assign rfl) ?_
              refine TL_nil ?_
              -- R32
              refine W_reg (l := [⟨some 147, Op.binOp BinOp.add 3 (Operand.tmp 108) (Operand.const (Value.int IntKind.i64 1)) 3, 3, none⟩, ⟨some 108, Op.move (Operand.tmp 147), 3, none⟩]) (by kernel_rfl) (by kernel_rfl) ?_
              refine TL_q rfl (QV_add (r := ((x + 1 : Nat) : Int)) rfl rfl (by omega) (by omega) (by omega)) ?_
              refine TL_q rfl (QV_move rfl) ?_
              refine TL_nil ?_
              first
                | exact ⟨(x + 1, ⟨_, _, _, v11⟩), ⟨by omega, hlm8, hz11⟩, ⟨rfl, rfl, rfl, rfl, rfl, rfl, rfl, rfl, rfl, trivial⟩, by show ((idxU D n D.length).getD a []).length - (x + 1) < ((idxU D n D.length).getD a []).length - x; omega⟩
                | exact ⟨(x + 1, ⟨d7, _, q7, sv7⟩), ⟨by omega, hlm7.pass hok hno, hz8⟩, ⟨rfl, rfl, rfl, rfl, rfl, rfl, rfl, rfl, rfl, trivial⟩, by show ((idxU D n D.length).getD a []).length - (x + 1) < ((idxU D n D.length).getD a []).length - x; omega⟩
            ·
              have hno : cn7.getD (((idxU D n D.length).getD a []).getD x 0) 0 - 1 ≠ 0 ∨ blk.getD (((idxU D n D.length).getD a []).getD x 0) false = true ∨ d7.getD (D.getD (((idxU D n D.length).getD a []).getD x 0) rl0).head false = true := .inr (.inr (by simpa using hc139))
              refine W_skip (by kernel_rfl) ?_
              -- R32
              refine W_reg (l := [⟨some 147, Op.binOp BinOp.add 3 (Operand.tmp 108) (Operand.const (Value.int IntKind.i64 1)) 3, 3, none⟩, ⟨some 108, Op.move (Operand.tmp 147), 3, none⟩]) (by kernel_rfl) (by kernel_rfl) ?_
              refine TL_q rfl (QV_add (r := ((x + 1 : Nat) : Int)) rfl rfl (by omega) (by omega) (by omega)) ?_
              refine TL_q rfl (QV_move rfl) ?_
              refine TL_nil ?_
              first
                | exact ⟨(x + 1, ⟨_, _, _, v11⟩), ⟨by omega, hlm8, hz11⟩, ⟨rfl, rfl, rfl, rfl, rfl, rfl, rfl, rfl, rfl, trivial⟩, by show ((idxU D n D.length).getD a []).length - (x + 1) < ((idxU D n D.length).getD a []).length - x; omega⟩
                | exact ⟨(x + 1, ⟨d7, _, q7, sv7⟩), ⟨by omega, hlm7.pass hok hno, hz8⟩, ⟨rfl, rfl, rfl, rfl, rfl, rfl, rfl, rfl, rfl, trivial⟩, by show ((idxU D n D.length).getD a []).length - (x + 1) < ((idxU D n D.length).getD a []).length - x; omega⟩
          ·
            have hno : cn7.getD (((idxU D n D.length).getD a []).getD x 0) 0 - 1 ≠ 0 ∨ blk.getD (((idxU D n D.length).getD a []).getD x 0) false = true ∨ d7.getD (D.getD (((idxU D n D.length).getD a []).getD x 0) rl0).head false = true := .inr (.inl (by simpa using hc129))
            refine W_skip (by kernel_rfl) ?_
            -- R32
            refine W_reg (l := [⟨some 147, Op.binOp BinOp.add 3 (Operand.tmp 108) (Operand.const (Value.int IntKind.i64 1)) 3, 3, none⟩, ⟨some 108, Op.move (Operand.tmp 147), 3, none⟩]) (by kernel_rfl) (by kernel_rfl) ?_
            refine TL_q rfl (QV_add (r := ((x + 1 : Nat) : Int)) rfl rfl (by omega) (by omega) (by omega)) ?_
            refine TL_q rfl (QV_move rfl) ?_
            refine TL_nil ?_
            first
              | exact ⟨(x + 1, ⟨_, _, _, v11⟩), ⟨by omega, hlm8, hz11⟩, ⟨rfl, rfl, rfl, rfl, rfl, rfl, rfl, rfl, rfl, trivial⟩, by show ((idxU D n D.length).getD a []).length - (x + 1) < ((idxU D n D.length).getD a []).length - x; omega⟩
              | exact ⟨(x + 1, ⟨d7, _, q7, sv7⟩), ⟨by omega, hlm7.pass hok hno, hz8⟩, ⟨rfl, rfl, rfl, rfl, rfl, rfl, rfl, rfl, rfl, trivial⟩, by show ((idxU D n D.length).getD a []).length - (x + 1) < ((idxU D n D.length).getD a []).length - x; omega⟩
        ·
          have hno : cn7.getD (((idxU D n D.length).getD a []).getD x 0) 0 - 1 ≠ 0 ∨ blk.getD (((idxU D n D.length).getD a []).getD x 0) false = true ∨ d7.getD (D.getD (((idxU D n D.length).getD a []).getD x 0) rl0).head false = true := .inl (of_decide_eq_false hb123)
          refine TL_gs rfl rfl rfl rfl ?_
          refine TL_gs rfl rfl rfl rfl ?_
          refine TL_gs rfl rfl rfl rfl ?_
          refine TL_gs rfl rfl rfl rfl ?_
          refine TL_gs rfl rfl rfl rfl ?_
          refine TL_q rfl (QV_pickF rfl rfl) ?_
          refine TL_nil ?_
          refine W_condF (c := Operand.tmp 129) (by kernel_rfl) rfl ?_
          refine W_skip (by kernel_rfl) ?_
          -- R32
          refine W_reg (l := [⟨some 147, Op.binOp BinOp.add 3 (Operand.tmp 108) (Operand.const (Value.int IntKind.i64 1)) 3, 3, none⟩, ⟨some 108, Op.move (Operand.tmp 147), 3, none⟩]) (by kernel_rfl) (by kernel_rfl) ?_
          refine TL_q rfl (QV_add (r := ((x + 1 : Nat) : Int)) rfl rfl (by omega) (by omega) (by omega)) ?_
          refine TL_q rfl (QV_move rfl) ?_
          refine TL_nil ?_
          first
            | exact ⟨(x + 1, ⟨_, _, _, v11⟩), ⟨by omega, hlm8, hz11⟩, ⟨rfl, rfl, rfl, rfl, rfl, rfl, rfl, rfl, rfl, trivial⟩, by show ((idxU D n D.length).getD a []).length - (x + 1) < ((idxU D n D.length).getD a []).length - x; omega⟩
            | exact ⟨(x + 1, ⟨d7, _, q7, sv7⟩), ⟨by omega, hlm7.pass hok hno, hz8⟩, ⟨rfl, rfl, rfl, rfl, rfl, rfl, rfl, rfl, rfl, trivial⟩, by show ((idxU D n D.length).getD a []).length - (x + 1) < ((idxU D n D.length).getD a []).length - x; omega⟩
      ·
        have hxe : x = ((idxU D n D.length).getD a []).length := by have := of_decide_eq_false hc109; omega
        rw [hxe, List.drop_length] at hlm7
        refine W_exit 6 (by kernel_rfl) ?_
        exact ⟨⟨d7, cn7, dn ++ [a], q7, sv7⟩, ⟨hlm7, hz7⟩, ⟨rfl, rfl, rfl, rfl, rfl, rfl, trivial⟩, by show n - (dn ++ [a]).length < n - dn.length; omega⟩
    ·
      have hnil : q5 = [] := by have := of_decide_eq_false hc91; exact List.length_eq_zero_iff.1 (by omega)
      subst hnil
      refine W_exit 4 (by kernel_rfl) ?_
      show T Try.prog 149 (C Try.f37 [1, 1, 1, 1, 1, 1, 1, 1]) _ _ _
      refine W_seq (by kernel_rfl) ?_
      -- R33
      refine W_reg (l := [⟨some 148, Op.move (Operand.tmp 9), 37, none⟩, ⟨some 8, Op.assign (Operand.tmp 148), 37, none⟩]) (by kernel_rfl) (by kernel_rfl) ?_
      refine TL_q rfl (QV_move rfl) ?_
      refine TL_q rfl (QV_assign rfl) ?_
      refine TL_nil ?_
      refine W_ret (by kernel_rfl) ?_
      exact ⟨_, rfl, hz5.f, d5, rfl, hlm5.dl, hz5.bd, fun a ha => hlm5.fin ha⟩

end Go.Proofs.Qxb6600121a
