/-
   Walks written by program (wip/gen).
-/
import Derived.Test.Qxb6600121aW44
namespace Go.Proofs.Qxb6600121a
open Go Go.Proofs
set_option linter.unusedVariables false
set_option linter.unusedSimpArgs false

theorem countP_take_succ (l : List Nat) (j : Nat) (h : j < l.length) (p : Nat → Bool) : (l.take (j + 1)).countP p = (l.take j).countP p + (if p (l.getD j 0) then 1 else 0) := by
  rw [take_succ_getD l j 0 h, List.countP_append, List.countP_singleton]
theorem any_take_succ (l : List Nat) (j : Nat) (h : j < l.length) (p : Nat → Bool) : (l.take (j + 1)).any p = ((l.take j).any p || p (l.getD j 0)) := by
  rw [take_succ_getD l j 0 h, List.any_append]
  simp
/-- A rule that cannot fire. -/
def dead (D : List Rl) (S : SS) (r : Nat) : Bool := (D.getD r rl0).all.any (fun a => decide (a = (D.getD r rl0).head ∨ S.val.getD a 0 = 0)) || (D.getD r rl0).unl.any (fun a => decide (S.val.getD a 0 = 2))
def waits (D : List Rl) (S : SS) (r : Nat) : Nat := (D.getD r rl0).all.countP (fun a => decide (S.val.getD a 0 = 1)) + (D.getD r rl0).unl.countP (fun a => decide (S.val.getD a 0 = 1))
def beginF (D : List Rl) (S : SS) (r : Nat) : SS := if dead D S r = true then S else { S with wait := S.wait.set r (waits D S r : Int) }
theorem dead_all {D : List Rl} {S : SS} {r a : Nat} (h : a ∈ (D.getD r rl0).all) (ha : a = (D.getD r rl0).head ∨ S.val.getD a 0 = 0) : dead D S r = true := by
  rw [dead, List.any_eq_true.2 ⟨a, h, decide_eq_true ha⟩, Bool.true_or]
theorem dead_unl {D : List Rl} {S : SS} {r a : Nat} (h : a ∈ (D.getD r rl0).unl) (ha : S.val.getD a 0 = 2) : dead D S r = true := by
  rw [dead, List.any_eq_true.2 ⟨a, h, decide_eq_true ha⟩, Bool.or_true]
set_option maxRecDepth 10000 in
set_option maxHeartbeats 1000000 in
theorem beginWalk (w : World) (L : Lay) (n : Nat) (D : List Rl) (S : SS) (Prot : Nat → Prop) (lv qv : Value) (h : SMF w w L n D S Prot lv qv) (hok : Okay n D) (hl : D.length + tot (D.map Rl.rd) ≤ 1048576) (r : Nat) (hr : r < D.length) :
    CallsS Try.prog 42 #[.pointer (some ⟨L.s + 9, 0, none⟩), .int .i64 (r : Int)] w (fun v w' => v = .bool (!dead D S r) ∧ SMF w w' L n D (beginF D S r) Prot lv qv) := by
  have hoks := hok _ (getD_mem rl0 hr)
  have htd := totD D r hr
  have htl := tot_take_le (D.map Rl.rd) (r + 1)
  obtain ⟨g1, va, vu, g2, g3, ga, gu⟩ := h.m.c.stat.rule hr
  obtain ⟨aa, ca, rfl, hca, hall⟩ := ga.nat
  obtain ⟨au, cu, rfl, hcu, hunl⟩ := gu.nat
  have g2 : cel w.heap L.s (0 + r * 3 + 1) = some (.slice aa (D.getD r rl0).all.length ca) := by rw [Nat.zero_add]; exact g2
  have g3 : cel w.heap L.s (0 + r * 3 + 2) = some (.slice au (D.getD r rl0).unl.length cu) := by rw [Nat.zero_add]; exact g3
  refine W_fun [4] Try.func42 rfl Try.ntmps42 Try.results42 (Nat.le_of_ble_eq_true rfl) ?_
  refine W_seq (by kernel_rfl) ?_
  -- R0
  refine W_reg (l := [⟨some 4, Op.assign (Operand.const (Value.bool false)), 4, none⟩]) (by kernel_rfl) (by kernel_rfl) ?_
  refine TL_q rfl (QV_assign rfl) ?_
  refine TL_nil ?_
  refine W_seq (by kernel_rfl) ?_
  -- R1
  refine W_reg (l := [⟨some 11, Op.move (Operand.tmp 0), 25, none⟩, ⟨some 12, Op.nilCheck (Operand.tmp 11), 0, none⟩, ⟨some 13, Op.fieldAddr 61 (Operand.tmp 12) 0, 0, none⟩, ⟨some 14, Op.load 59 (Operand.tmp 13), 59, none⟩, ⟨some 15, Op.nilCheck (Operand.tmp 14), 0, none⟩, ⟨some 16, Op.fieldAddr 65 (Operand.tmp 15) 1, 0, none⟩, ⟨some 17, Op.load 53 (Operand.tmp 16), 53, none⟩, ⟨some 18, Op.move (Operand.tmp 1), 3, none⟩, ⟨some 19, Op.indexAddr 53 (Operand.tmp 17) (Operand.tmp 18), 0, none⟩, ⟨some 20, Op.load 54 (Operand.tmp 19), 54, none⟩, ⟨some 5, Op.alloc 54, 0, none⟩, ⟨none, Op.store 54 (Operand.tmp 5) (Operand.tmp 20), 0, none⟩]) (by kernel_rfl) (by kernel_rfl) ?_
  refine TL_q rfl (QV_move rfl) ?_
  refine TL_q rfl (QV_nil rfl) ?_
  refine TL_q rfl (QV_field0 rfl fld61_0) ?_
  refine TL_q rfl (QV_load rfl one59 (h.m.c.c0)) ?_
  refine TL_q rfl (QV_nil rfl) ?_
  refine TL_q rfl (QV_field rfl fld65_1) ?_
  refine TL_q rfl (QV_load rfl one53 (h.m.c.stat.r1)) ?_
  refine TL_q rfl (QV_move rfl) ?_
  refine TL_q rfl (QV_idx rfl rfl el53 sz54 (hr)) ?_
  refine TL_q rfl (QV_load3 rfl Try.underlying54 sz54 (h.m.c.stat.ruleH hr) g2 g3) ?_
  refine TL_e (EV_alloc rfl in54 fun w1 k1 => ?_)
  have hb1 : Blk w1.heap w.heap.size 54 [.int .i64 0, .slice none 0 0, .slice none 0 0] := k1.blk
  refine TL_e (EV_store3 rfl rfl rfl rfl rfl sz54 hb1 (by decide) fun w2 u2 => ?_)
  have hru : Blk w2.heap w.heap.size 54 [.int .i64 ((((D.getD r rl0).head : Nat) : Int)), .slice aa (D.getD r rl0).all.length ca, .slice au (D.getD r rl0).unl.length cu] := u2.blk
  have h2 : SMF w w2 L n D S Prot lv qv := h.box k1 u2
  have q0 : cel w2.heap w.heap.size 0 = some (.int .i64 (((D.getD r rl0).head : Nat) : Int)) := by rw [hru.cel]; rfl
  have q1 : cel w2.heap w.heap.size 1 = some (.slice aa (D.getD r rl0).all.length ca) := by rw [hru.cel]; rfl
  have q2 : cel w2.heap w.heap.size 2 = some (.slice au (D.getD r rl0).unl.length cu) := by rw [hru.cel]; rfl
  have fnw : ∀ b o v, cel w.heap b o = some v → b ≤ L.s → cel w2.heap b o = some v := fun b o v hc hb => cel_fr hc h2.f (notFX hb)
  refine TL_nil ?_
  refine W_seq (by kernel_rfl) ?_
  -- R2
  refine W_reg (l := [⟨some 6, Op.assign (Operand.const (Value.int IntKind.i64 0)), 3, none⟩]) (by kernel_rfl) (by kernel_rfl) ?_
  refine TL_q rfl (QV_assign rfl) ?_
  refine TL_nil ?_
  refine W_seq (by kernel_rfl) ?_
  refine W_seq (by kernel_rfl) ?_
  -- R3
  refine W_reg (l := [⟨some 21, Op.fieldAddr 54 (Operand.tmp 5) 1, 0, none⟩, ⟨some 22, Op.load 27 (Operand.tmp 21), 27, none⟩, ⟨some 23, Op.call { callee := Callee.builtin Builtin.len, args := #[Operand.tmp 22], argTypes := #[27] }, 3, none⟩, ⟨some 24, Op.move (Operand.const (Value.int IntKind.i64 0)), 3, none⟩]) (by kernel_rfl) (by kernel_rfl) ?_
  refine TL_q rfl (QV_field rfl fld54_1) ?_
  refine TL_q rfl (QV_load rfl one27 (q1)) ?_
  refine TL_q rfl (QV_len rfl el27) ?_
  refine TL_q rfl (QV_move rfl) ?_
  refine TL_nil ?_
  refine W_block 0 (by kernel_rfl) ?_
  refine W_loop (fun (j : Nat) w3 => j ≤ (D.getD r rl0).all.length ∧ w2 = w3 ∧ ((D.getD r rl0).all.take j).any (fun a => decide (a = (D.getD r rl0).head ∨ S.val.getD a 0 = 0)) = false) (fun j => [(0, .pointer (some ⟨L.s + 9, 0, none⟩)), (1, .int .i64 (r : Int)), (5, .pointer (some ⟨w.heap.size, 0, none⟩)), (6, .int .i64 ((((D.getD r rl0).all.take j).countP (fun a => decide (S.val.getD a 0 = 1)) : Nat) : Int)), (22, .slice aa (D.getD r rl0).all.length ca), (23, .int .i64 ((D.getD r rl0).all.length : Nat)), (24, .int .i64 (j : Int))]) (fun j => (D.getD r rl0).all.length - j) 0 (by kernel_rfl) ?_ ?_ ?_
  · exact ⟨Nat.zero_le _, rfl, rfl⟩
  · exact ⟨rfl, rfl, rfl, rfl, rfl, rfl, rfl, trivial⟩
  rintro j w3 ⟨hj, rfl, hany⟩
  refine W_seq (by kernel_rfl) ?_
  -- R4
  refine W_reg (l := [⟨some 25, Op.binOp BinOp.lss 3 (Operand.tmp 24) (Operand.tmp 23) 3, 0, none⟩]) (by kernel_rfl) (by kernel_rfl) ?_
  refine TL_q rfl (QV_lss rfl rfl) ?_
  refine TL_nil ?_
  refine W_seq (by kernel_rfl) ?_
  refine W_cond (c := Operand.tmp 25) (by kernel_rfl) rfl (fun hc25 => ?_) (fun hc25 => ?_)
  ·
    have hjl : j < (D.getD r rl0).all.length := by have := of_decide_eq_true hc25; omega
    obtain ⟨b1, o1, rfl, hb1B, hc1⟩ := hall (by omega)
    have hdm := getD_mem 0 hjl
    have hdn := hoks.2.1 _ hdm
    have hcp := countP_take_succ (D.getD r rl0).all j hjl (fun a => decide (S.val.getD a 0 = 1))
    have hcl := List.countP_le_length (p := fun a => decide (S.val.getD a 0 = 1)) (l := (D.getD r rl0).all.take j)
    rw [List.length_take] at hcl
    have hat := any_take_succ (D.getD r rl0).all j hjl (fun a => decide (a = (D.getD r rl0).head ∨ S.val.getD a 0 = 0))
    refine W_skip (by kernel_rfl) ?_
    refine W_seq (by kernel_rfl) ?_
    refine W_block 1 (by kernel_rfl) ?_
    refine W_seq (by kernel_rfl) ?_
    -- R5
    refine W_reg (l := [⟨some 26, Op.indexAddr 27 (Operand.tmp 22) (Operand.tmp 24), 0, none⟩, ⟨some 27, Op.load 3 (Operand.tmp 26), 3, none⟩, ⟨some 8, Op.assign (Operand.tmp 27), 3, none⟩]) (by kernel_rfl) (by kernel_rfl) ?_
    refine TL_q rfl (QV_idxO rfl rfl el27 sz3 (hjl)) ?_
    refine TL_q rfl (QV_load rfl one3 (fnw _ _ _ (hc1 j hjl) hb1B)) ?_
    refine TL_q rfl (QV_assign rfl) ?_
    refine TL_nil ?_
    refine W_block 2 (by kernel_rfl) ?_
    refine W_seq (by kernel_rfl) ?_
    -- R6
    refine W_reg (l := [⟨some 29, Op.move (Operand.tmp 8), 3, none⟩, ⟨some 30, Op.fieldAddr 54 (Operand.tmp 5) 0, 0, none⟩, ⟨some 31, Op.load 3 (Operand.tmp 30), 3, none⟩, ⟨some 32, Op.binOp BinOp.eql 3 (Operand.tmp 29) (Operand.tmp 31) 3, 4, none⟩, ⟨some 33, Op.move (Operand.tmp 32), 4, none⟩, ⟨some 34, Op.move (Operand.tmp 0), 25, some (4, false)⟩, ⟨some 35, Op.nilCheck (Operand.tmp 34), 0, some (4, false)⟩, ⟨some 36, Op.fieldAddr 61 (Operand.tmp 35) 4, 0, some (4, false)⟩, ⟨some 37, Op.load 47 (Operand.tmp 36), 47, some (4, false)⟩, ⟨some 38, Op.move (Operand.tmp 8), 3, some (4, false)⟩, ⟨some 39, Op.indexAddr 47 (Operand.tmp 37) (Operand.tmp 38), 0, some (4, false)⟩, ⟨some 40, Op.load 45 (Operand.tmp 39), 45, some (4, false)⟩, ⟨some 41, Op.binOp BinOp.eql 45 (Operand.tmp 40) (Operand.const (Value.int IntKind.i8 0)) 45, 4, some (4, false)⟩, ⟨some 42, Op.pick (Operand.tmp 33) (Operand.const (Value.bool true)) (Operand.tmp 41), 4, none⟩, ⟨some 28, Op.assign (Operand.tmp 42), 4, none⟩]) (by kernel_rfl) (by kernel_rfl) ?_
    refine TL_q rfl (QV_move rfl) ?_
    refine TL_q rfl (QV_field0 rfl fld54_0) ?_
    refine TL_q rfl (QV_load rfl one3 (q0)) ?_
    refine TL_q rfl (QV_eql rfl rfl) ?_
    refine TL_q rfl (QV_move rfl) ?_
    refine TL_cases (t := 33) rfl (fun hb33 => ?_) (fun hb33 => ?_)
    ·
      have hdead : dead D S r = true := dead_all hdm (.inl (by have := of_decide_eq_true hb33; omega))
      refine TL_gs rfl rfl rfl rfl ?_
      refine TL_gs rfl rfl rfl rfl ?_
      refine TL_gs rfl rfl rfl rfl ?_
      refine TL_gs rfl rfl rfl rfl ?_
      refine TL_gs rfl rfl rfl rfl ?_
      refine TL_gs rfl rfl rfl rfl ?_
      refine TL_gs rfl rfl rfl rfl ?_
      refine TL_gs rfl rfl rfl rfl ?_
      refine TL_q rfl (QV_pickT rfl rfl) ?_
      refine TL_q rfl (QV_assign rfl) ?_
      refine TL_nil ?_
      refine W_condT (c := Operand.tmp 28) (by kernel_rfl) rfl ?_
      refine W_seq (by kernel_rfl) ?_
      -- R7
      refine W_reg (l := [⟨some 4, Op.assign (Operand.const (Value.bool false)), 4, none⟩]) (by kernel_rfl) (by kernel_rfl) ?_
      refine TL_q rfl (QV_assign rfl) ?_
      refine TL_nil ?_
      refine W_ret (by kernel_rfl) ?_
      first
        | exact ⟨_, rfl, (by rw [hdead]; rfl), h2.castS (by rw [beginF, if_pos hdead])⟩
        | exact ⟨_, rfl, (by rw [hnd]; rfl), h4.castS e4⟩
    ·
      have hnh : (D.getD r rl0).all.getD j 0 ≠ (D.getD r rl0).head := by have := of_decide_eq_false hb33; omega
      refine TL_gq rfl rfl rfl rfl (QV_move rfl) ?_
      refine TL_gq rfl rfl rfl rfl (QV_nil rfl) ?_
      refine TL_gq rfl rfl rfl rfl (QV_field rfl fld61_4) ?_
      refine TL_gq rfl rfl rfl rfl (QV_load rfl one47 (h2.m.c.c4)) ?_
      refine TL_gq rfl rfl rfl rfl (QV_move rfl) ?_
      refine TL_gq rfl rfl rfl rfl (QV_idx1 rfl rfl el47 sz45 (hdn)) ?_
      refine TL_gq rfl rfl rfl rfl (QV_load rfl one45 (h2.m.c.bval.c8 (by rw [h2.m.c.nval]; exact hdn))) ?_
      refine TL_gq rfl rfl rfl rfl (QV_eql rfl rfl) ?_
      refine TL_q rfl (QV_pickF rfl rfl) ?_
      refine TL_q rfl (QV_assign rfl) ?_
      refine TL_nil ?_
      refine W_cond (c := Operand.tmp 28) (by kernel_rfl) rfl (fun hc28 => ?_) (fun hc28 => ?_)
      ·
        have hdead : dead D S r = true := dead_all hdm (.inr (of_decide_eq_true hc28))
        refine W_seq (by kernel_rfl) ?_
        -- R7
        refine W_reg (l := [⟨some 4, Op.assign (Operand.const (Value.bool false)), 4, none⟩]) (by kernel_rfl) (by kernel_rfl) ?_
        refine TL_q rfl (QV_assign rfl) ?_
        refine TL_nil ?_
        refine W_ret (by kernel_rfl) ?_
        first
          | exact ⟨_, rfl, (by rw [hdead]; rfl), h2.castS (by rw [beginF, if_pos hdead])⟩
          | exact ⟨_, rfl, (by rw [hnd]; rfl), h4.castS e4⟩
      ·
        have hn0 : S.val.getD ((D.getD r rl0).all.getD j 0) 0 ≠ 0 := of_decide_eq_false hc28
        have hat2 : ((D.getD r rl0).all.take (j + 1)).any (fun a => decide (a = (D.getD r rl0).head ∨ S.val.getD a 0 = 0)) = false := by rw [hat, hany, Bool.false_or]; exact decide_eq_false (fun e => e.elim hnh hn0)
        refine W_seq (by kernel_rfl) ?_
        -- R8
        refine W_reg (l := [⟨some 44, Op.move (Operand.tmp 0), 25, none⟩, ⟨some 45, Op.nilCheck (Operand.tmp 44), 0, none⟩, ⟨some 46, Op.fieldAddr 61 (Operand.tmp 45) 4, 0, none⟩, ⟨some 47, Op.load 47 (Operand.tmp 46), 47, none⟩, ⟨some 48, Op.move (Operand.tmp 8), 3, none⟩, ⟨some 49, Op.indexAddr 47 (Operand.tmp 47) (Operand.tmp 48), 0, none⟩, ⟨some 50, Op.load 45 (Operand.tmp 49), 45, none⟩, ⟨some 51, Op.binOp BinOp.eql 45 (Operand.tmp 50) (Operand.const (Value.int IntKind.i8 1)) 45, 4, none⟩, ⟨some 43, Op.assign (Operand.tmp 51), 4, none⟩]) (by kernel_rfl) (by kernel_rfl) ?_
        refine TL_q rfl (QV_move rfl) ?_
        refine TL_q rfl (QV_nil rfl) ?_
        refine TL_q rfl (QV_field rfl fld61_4) ?_
        refine TL_q rfl (QV_load rfl one47 (h2.m.c.c4)) ?_
        refine TL_q rfl (QV_move rfl) ?_
        refine TL_q rfl (QV_idx1 rfl rfl el47 sz45 (hdn)) ?_
        refine TL_q rfl (QV_load rfl one45 (h2.m.c.bval.c8 (by rw [h2.m.c.nval]; exact hdn))) ?_
        refine TL_q rfl (QV_eql rfl rfl) ?_
        refine TL_q rfl (QV_assign rfl) ?_
        refine TL_nil ?_
        refine W_cond (c := Operand.tmp 43) (by kernel_rfl) rfl (fun hc43 => ?_) (fun hc43 => ?_)
        ·
          have h1 : S.val.getD ((D.getD r rl0).all.getD j 0) 0 = 1 := of_decide_eq_true hc43
          rw [decide_eq_true h1] at hcp
          -- R9
          refine W_reg (l := [⟨some 52, Op.move (Operand.tmp 6), 3, none⟩, ⟨some 53, Op.binOp BinOp.add 3 (Operand.tmp 52) (Operand.const (Value.int IntKind.i64 1)) 3, 3, none⟩, ⟨some 6, Op.assign (Operand.tmp 53), 3, none⟩]) (by kernel_rfl) (by kernel_rfl) ?_
          refine TL_q rfl (QV_move rfl) ?_
          refine TL_q rfl (QV_add (r := ((((D.getD r rl0).all.take j).countP (fun a => decide (S.val.getD a 0 = 1)) + 1 : Nat) : Int)) rfl rfl (by omega) (by omega) (by omega)) ?_
          refine TL_q rfl (QV_assign rfl) ?_
          refine TL_nil ?_
          -- R10
          refine W_reg (l := [⟨some 54, Op.binOp BinOp.add 3 (Operand.tmp 24) (Operand.const (Value.int IntKind.i64 1)) 3, 3, none⟩, ⟨some 24, Op.move (Operand.tmp 54), 3, none⟩]) (by kernel_rfl) (by kernel_rfl) ?_
          refine TL_q rfl (QV_add (r := ((j + 1 : Nat) : Int)) rfl rfl (by omega) (by omega) (by omega)) ?_
          refine TL_q rfl (QV_move rfl) ?_
          refine TL_nil ?_
          exact ⟨j + 1, ⟨by omega, rfl, hat2⟩, ⟨rfl, rfl, rfl, sint (by rw [hcp]; simp), rfl, rfl, rfl, trivial⟩, by omega⟩
        ·
          have h1 : ¬ S.val.getD ((D.getD r rl0).all.getD j 0) 0 = 1 := of_decide_eq_false hc43
          rw [decide_eq_false h1] at hcp
          refine W_skip (by kernel_rfl) ?_
          -- R10
          refine W_reg (l := [⟨some 54, Op.binOp BinOp.add 3 (Operand.tmp 24) (Operand.const (Value.int IntKind.i64 1)) 3, 3, none⟩, ⟨some 24, Op.move (Operand.tmp 54), 3, none⟩]) (by kernel_rfl) (by kernel_rfl) ?_
          refine TL_q rfl (QV_add (r := ((j + 1 : Nat) : Int)) rfl rfl (by omega) (by omega) (by omega)) ?_
          refine TL_q rfl (QV_move rfl) ?_
          refine TL_nil ?_
          exact ⟨j + 1, ⟨by omega, rfl, hat2⟩, ⟨rfl, rfl, rfl, sint (by rw [hcp]; simp), rfl, rfl, rfl, trivial⟩, by omega⟩
  ·
    have hje : j = (D.getD r rl0).all.length := by have := of_decide_eq_false hc25; omega
    subst hje
    rw [List.take_length] at hany
    have hcl := List.countP_le_length (p := fun a => decide (S.val.getD a 0 = 1)) (l := (D.getD r rl0).all)
    rw [List.take_length]
    refine W_exit 0 (by kernel_rfl) ?_
    show T Try.prog 83 (C Try.f42 [1, 1, 1, 1]) _ _ _
    refine W_seq (by kernel_rfl) ?_
    refine W_seq (by kernel_rfl) ?_
    -- R11
    refine W_reg (l := [⟨some 55, Op.fieldAddr 54 (Operand.tmp 5) 2, 0, none⟩, ⟨some 56, Op.load 27 (Operand.tmp 55), 27, none⟩, ⟨some 57, Op.call { callee := Callee.builtin Builtin.len, args := #[Operand.tmp 56], argTypes := #[27] }, 3, none⟩, ⟨some 58, Op.move (Operand.const (Value.int IntKind.i64 0)), 3, none⟩]) (by kernel_rfl) (by kernel_rfl) ?_
    refine TL_q rfl (QV_field rfl fld54_2) ?_
    refine TL_q rfl (QV_load rfl one27 (q2)) ?_
    refine TL_q rfl (QV_len rfl el27) ?_
    refine TL_q rfl (QV_move rfl) ?_
    refine TL_nil ?_
    refine W_block 3 (by kernel_rfl) ?_
    refine W_loop (fun (j : Nat) w3 => j ≤ (D.getD r rl0).unl.length ∧ w2 = w3 ∧ ((D.getD r rl0).unl.take j).any (fun a => decide (S.val.getD a 0 = 2)) = false) (fun j => [(0, .pointer (some ⟨L.s + 9, 0, none⟩)), (1, .int .i64 (r : Int)), (5, .pointer (some ⟨w.heap.size, 0, none⟩)), (6, .int .i64 (((D.getD r rl0).all.countP (fun a => decide (S.val.getD a 0 = 1)) + ((D.getD r rl0).unl.take j).countP (fun a => decide (S.val.getD a 0 = 1)) : Nat) : Int)), (56, .slice au (D.getD r rl0).unl.length cu), (57, .int .i64 ((D.getD r rl0).unl.length : Nat)), (58, .int .i64 (j : Int))]) (fun j => (D.getD r rl0).unl.length - j) 0 (by kernel_rfl) ?_ ?_ ?_
    · exact ⟨Nat.zero_le _, rfl, rfl⟩
    · exact ⟨rfl, rfl, rfl, sint (by simp), rfl, rfl, rfl, trivial⟩
    rintro j w3 ⟨hj, rfl, hany2⟩
    refine W_seq (by kernel_rfl) ?_
    -- R12
    refine W_reg (l := [⟨some 59, Op.binOp BinOp.lss 3 (Operand.tmp 58) (Operand.tmp 57) 3, 0, none⟩]) (by kernel_rfl) (by kernel_rfl) ?_
    refine TL_q rfl (QV_lss rfl rfl) ?_
    refine TL_nil ?_
    refine W_seq (by kernel_rfl) ?_
    refine W_cond (c := Operand.tmp 59) (by kernel_rfl) rfl (fun hc59 => ?_) (fun hc59 => ?_)
    ·
      have hjl : j < (D.getD r rl0).unl.length := by have := of_decide_eq_true hc59; omega
      obtain ⟨b1, o1, rfl, hb1B, hc1⟩ := hunl (by omega)
      have hdm := getD_mem 0 hjl
      have hdn := hoks.2.2 _ hdm
      have hcp := countP_take_succ (D.getD r rl0).unl j hjl (fun a => decide (S.val.getD a 0 = 1))
      have hcl2 := List.countP_le_length (p := fun a => decide (S.val.getD a 0 = 1)) (l := (D.getD r rl0).unl.take j)
      rw [List.length_take] at hcl2
      have hat := any_take_succ (D.getD r rl0).unl j hjl (fun a => decide (S.val.getD a 0 = 2))
      refine W_skip (by kernel_rfl) ?_
      refine W_seq (by kernel_rfl) ?_
      refine W_block 4 (by kernel_rfl) ?_
      refine W_seq (by kernel_rfl) ?_
      -- R13
      refine W_reg (l := [⟨some 60, Op.indexAddr 27 (Operand.tmp 56) (Operand.tmp 58), 0, none⟩, ⟨some 61, Op.load 3 (Operand.tmp 60), 3, none⟩, ⟨some 10, Op.assign (Operand.tmp 61), 3, none⟩]) (by kernel_rfl) (by kernel_rfl) ?_
      refine TL_q rfl (QV_idxO rfl rfl el27 sz3 (hjl)) ?_
      refine TL_q rfl (QV_load rfl one3 (fnw _ _ _ (hc1 j hjl) hb1B)) ?_
      refine TL_q rfl (QV_assign rfl) ?_
      refine TL_nil ?_
      refine W_seq (by kernel_rfl) ?_
      -- R14
      refine W_reg (l := [⟨some 62, Op.move (Operand.tmp 0), 25, none⟩, ⟨some 63, Op.nilCheck (Operand.tmp 62), 0, none⟩, ⟨some 64, Op.fieldAddr 61 (Operand.tmp 63) 4, 0, none⟩, ⟨some 65, Op.load 47 (Operand.tmp 64), 47, none⟩, ⟨some 66, Op.move (Operand.tmp 10), 3, none⟩, ⟨some 67, Op.indexAddr 47 (Operand.tmp 65) (Operand.tmp 66), 0, none⟩, ⟨some 68, Op.load 45 (Operand.tmp 67), 45, none⟩]) (by kernel_rfl) (by kernel_rfl) ?_
      refine TL_q rfl (QV_move rfl) ?_
      refine TL_q rfl (QV_nil rfl) ?_
      refine TL_q rfl (QV_field rfl fld61_4) ?_
      refine TL_q rfl (QV_load rfl one47 (h2.m.c.c4)) ?_
      refine TL_q rfl (QV_move rfl) ?_
      refine TL_q rfl (QV_idx1 rfl rfl el47 sz45 (hdn)) ?_
      refine TL_q rfl (QV_load rfl one45 (h2.m.c.bval.c8 (by rw [h2.m.c.nval]; exact hdn))) ?_
      refine TL_nil ?_
      refine W_block 5 (by kernel_rfl) ?_
      refine W_seq (by kernel_rfl) ?_
      -- R15
      refine W_reg (l := [⟨some 70, Op.binOp BinOp.eql 45 (Operand.tmp 68) (Operand.const (Value.int IntKind.i8 2)) 45, 4, none⟩, ⟨some 69, Op.assign (Operand.tmp 70), 4, none⟩]) (by kernel_rfl) (by kernel_rfl) ?_
      refine TL_q rfl (QV_eql rfl rfl) ?_
      refine TL_q rfl (QV_assign rfl) ?_
      refine TL_nil ?_
      refine W_cond (c := Operand.tmp 69) (by kernel_rfl) rfl (fun hc69 => ?_) (fun hc69 => ?_)
      ·
        have hdead : dead D S r = true := dead_unl hdm (of_decide_eq_true hc69)
        refine W_seq (by kernel_rfl) ?_
        -- R16
        refine W_reg (l := [⟨some 4, Op.assign (Operand.const (Value.bool false)), 4, none⟩]) (by kernel_rfl) (by kernel_rfl) ?_
        refine TL_q rfl (QV_assign rfl) ?_
        refine TL_nil ?_
        refine W_ret (by kernel_rfl) ?_
        first
          | exact ⟨_, rfl, (by rw [hdead]; rfl), h2.castS (by rw [beginF, if_pos hdead])⟩
          | exact ⟨_, rfl, (by rw [hnd]; rfl), h4.castS e4⟩
      ·
        have hn2 : ¬ S.val.getD ((D.getD r rl0).unl.getD j 0) 0 = 2 := of_decide_eq_false hc69
        have hat2 : ((D.getD r rl0).unl.take (j + 1)).any (fun a => decide (S.val.getD a 0 = 2)) = false := by rw [hat, hany2, Bool.false_or]; exact decide_eq_false hn2
        refine W_seq (by kernel_rfl) ?_
        -- R17
        refine W_reg (l := [⟨some 72, Op.binOp BinOp.eql 45 (Operand.tmp 68) (Operand.const (Value.int IntKind.i8 1)) 45, 4, none⟩, ⟨some 71, Op.assign (Operand.tmp 72), 4, none⟩]) (by kernel_rfl) (by kernel_rfl) ?_
        refine TL_q rfl (QV_eql rfl rfl) ?_
        refine TL_q rfl (QV_assign rfl) ?_
        refine TL_nil ?_
        refine W_cond (c := Operand.tmp 71) (by kernel_rfl) rfl (fun hc71 => ?_) (fun hc71 => ?_)
        ·
          have h1 : S.val.getD ((D.getD r rl0).unl.getD j 0) 0 = 1 := of_decide_eq_true hc71
          rw [decide_eq_true h1] at hcp
          -- R18
          refine W_reg (l := [⟨some 73, Op.move (Operand.tmp 6), 3, none⟩, ⟨some 74, Op.binOp BinOp.add 3 (Operand.tmp 73) (Operand.const (Value.int IntKind.i64 1)) 3, 3, none⟩, ⟨some 6, Op.assign (Operand.tmp 74), 3, none⟩]) (by kernel_rfl) (by kernel_rfl) ?_
          refine TL_q rfl (QV_move rfl) ?_
          refine TL_q rfl (QV_add (r := (((D.getD r rl0).all.countP (fun a => decide (S.val.getD a 0 = 1)) + ((D.getD r rl0).unl.take j).countP (fun a => decide (S.val.getD a 0 = 1)) + 1 : Nat) : Int)) rfl rfl (by omega) (by omega) (by omega)) ?_
          refine TL_q rfl (QV_assign rfl) ?_
          refine TL_nil ?_
          -- R19
          refine W_reg (l := [⟨some 75, Op.binOp BinOp.add 3 (Operand.tmp 58) (Operand.const (Value.int IntKind.i64 1)) 3, 3, none⟩, ⟨some 58, Op.move (Operand.tmp 75), 3, none⟩]) (by kernel_rfl) (by kernel_rfl) ?_
          refine TL_q rfl (QV_add (r := ((j + 1 : Nat) : Int)) rfl rfl (by omega) (by omega) (by omega)) ?_
          refine TL_q rfl (QV_move rfl) ?_
          refine TL_nil ?_
          exact ⟨j + 1, ⟨by omega, rfl, hat2⟩, ⟨rfl, rfl, rfl, sint (by rw [hcp]; simp <;> omega), rfl, rfl, rfl, trivial⟩, by omega⟩
        ·
          have h1 : ¬ S.val.getD ((D.getD r rl0).unl.getD j 0) 0 = 1 := of_decide_eq_false hc71
          rw [decide_eq_false h1] at hcp
          refine W_skip (by kernel_rfl) ?_
          -- R19
          refine W_reg (l := [⟨some 75, Op.binOp BinOp.add 3 (Operand.tmp 58) (Operand.const (Value.int IntKind.i64 1)) 3, 3, none⟩, ⟨some 58, Op.move (Operand.tmp 75), 3, none⟩]) (by kernel_rfl) (by kernel_rfl) ?_
          refine TL_q rfl (QV_add (r := ((j + 1 : Nat) : Int)) rfl rfl (by omega) (by omega) (by omega)) ?_
          refine TL_q rfl (QV_move rfl) ?_
          refine TL_nil ?_
          exact ⟨j + 1, ⟨by omega, rfl, hat2⟩, ⟨rfl, rfl, rfl, sint (by rw [hcp]; simp <;> omega), rfl, rfl, rfl, trivial⟩, by omega⟩
    ·
      have hje : j = (D.getD r rl0).unl.length := by have := of_decide_eq_false hc59; omega
      subst hje
      rw [List.take_length] at hany2
      rw [List.take_length]
      have hnd : dead D S r = false := by rw [dead, hany, hany2]; rfl
      refine W_exit 3 (by kernel_rfl) ?_
      show T Try.prog 83 (C Try.f42 [1, 1, 1, 1, 1]) _ _ _
      refine W_seq (by kernel_rfl) ?_
      -- R20
      refine W_reg (l := [⟨some 76, Op.move (Operand.tmp 0), 25, none⟩, ⟨some 77, Op.nilCheck (Operand.tmp 76), 0, none⟩, ⟨some 78, Op.fieldAddr 61 (Operand.tmp 77) 10, 0, none⟩, ⟨some 79, Op.load 27 (Operand.tmp 78), 27, none⟩, ⟨some 80, Op.move (Operand.tmp 1), 3, none⟩, ⟨some 81, Op.move (Operand.tmp 6), 3, none⟩, ⟨some 82, Op.indexAddr 27 (Operand.tmp 79) (Operand.tmp 80), 0, none⟩, ⟨none, Op.store 3 (Operand.tmp 82) (Operand.tmp 81), 0, none⟩]) (by kernel_rfl) (by kernel_rfl) ?_
      refine TL_q rfl (QV_move rfl) ?_
      refine TL_q rfl (QV_nil rfl) ?_
      refine TL_q rfl (QV_field rfl fld61_10) ?_
      refine TL_q rfl (QV_load rfl one27 (h2.m.c.c10)) ?_
      refine TL_q rfl (QV_move rfl) ?_
      refine TL_q rfl (QV_move rfl) ?_
      refine TL_q rfl (QV_idx1 rfl rfl el27 sz3 (hr)) ?_
      refine TL_e (EV_store rfl rfl rfl sz3 h2.m.c.bwait (by rw [ints_len, h2.m.c.nwait]; exact hr) fun w4 u4 => ?_)
      have h4 := h2.setWait u4
      have e4 : { S with wait := S.wait.set r (waits D S r : Int) } = beginF D S r := by rw [beginF, if_neg (by rw [hnd]; exact Bool.false_ne_true)]
      refine TL_nil ?_
      refine W_seq (by kernel_rfl) ?_
      -- R21
      refine W_reg (l := [⟨some 4, Op.assign (Operand.const (Value.bool true)), 4, none⟩]) (by kernel_rfl) (by kernel_rfl) ?_
      refine TL_q rfl (QV_assign rfl) ?_
      refine TL_nil ?_
      refine W_ret (by kernel_rfl) ?_
      first
        | exact ⟨_, rfl, (by rw [hdead]; rfl), h2.castS (by rw [beginF, if_pos hdead])⟩
        | exact ⟨_, rfl, (by rw [hnd]; rfl), h4.castS e4⟩

end Go.Proofs.Qxb6600121a
