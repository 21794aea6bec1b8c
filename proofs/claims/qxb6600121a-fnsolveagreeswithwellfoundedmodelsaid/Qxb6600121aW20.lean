/-
   Walks written by program (wip/gen).
-/
import Derived.Test.Qxb6600121aTabs
namespace Go.Proofs.Qxb6600121a
open Go Go.Proofs
set_option linter.unusedVariables false
set_option linter.unusedSimpArgs false

set_option maxRecDepth 10000 in
theorem zzIndex (w : World) (B : Nat → Prop) (n : Nat) (v : Value) (D : List Rl) (hv : RulesAt w.heap B v (D.map Rl.rd)) (hok : Okay n D) (hl : D.length + tot (D.map Rl.rd) ≤ 1048576) (hn : n ≤ 65536) :
    CallsS Try.prog 20 #[.int .i64 (n : Int), v] w (fun r w' => Fr (fun _ => False) w w' ∧ ∃ v1 v2 v3, r = .tuple #[v1, v2, v3] ∧
      TblAt w'.heap (fun b => w.heap.size ≤ b ∧ b < w'.heap.size) v1 n (idxH D n D.length) ∧ TblAt w'.heap (fun b => w.heap.size ≤ b ∧ b < w'.heap.size) v2 n (idxU D n D.length) ∧ TblAt w'.heap (fun b => w.heap.size ≤ b ∧ b < w'.heap.size) v3 n (idxE D n D.length)) := by
  obtain ⟨a, c, rfl, hc, hp⟩ := hv.nat
  refine W_fun [4, 5, 6] Try.func20 rfl Try.ntmps20 Try.results20 (Nat.le_of_ble_eq_true rfl) ?_
  refine W_seq (by kernel_rfl) ?_
  -- R0
  refine W_reg (l := [⟨some 4, Op.assign (Operand.const (Value.slice none 0 0)), 34, none⟩, ⟨some 5, Op.assign (Operand.const (Value.slice none 0 0)), 34, none⟩, ⟨some 6, Op.assign (Operand.const (Value.slice none 0 0)), 34, none⟩]) (by kernel_rfl) (by kernel_rfl) ?_
  refine TL_q rfl (QV_assign rfl) ?_
  refine TL_q rfl (QV_assign rfl) ?_
  refine TL_q rfl (QV_assign rfl) ?_
  refine TL_nil ?_
  refine W_seq (by kernel_rfl) ?_
  -- R1
  refine W_reg (l := [⟨some 13, Op.move (Operand.tmp 0), 3, none⟩, ⟨some 14, Op.makeSlice 34 (Operand.tmp 13) (Operand.tmp 13), 34, none⟩, ⟨some 4, Op.assign (Operand.tmp 14), 34, none⟩]) (by kernel_rfl) (by kernel_rfl) ?_
  refine TL_q rfl (QV_move rfl) ?_
  refine TL_e (EV_make1 rfl rfl rfl el34 in27 rfl (by omega) (by omega) (by omega) fun w2 hw2 => ?_)
  refine TL_q rfl (QV_assign rfl) ?_
  refine TL_nil ?_
  refine W_seq (by kernel_rfl) ?_
  -- R2
  refine W_reg (l := [⟨some 15, Op.move (Operand.tmp 0), 3, none⟩, ⟨some 16, Op.makeSlice 34 (Operand.tmp 15) (Operand.tmp 15), 34, none⟩, ⟨some 5, Op.assign (Operand.tmp 16), 34, none⟩]) (by kernel_rfl) (by kernel_rfl) ?_
  refine TL_q rfl (QV_move rfl) ?_
  refine TL_e (EV_make1 rfl rfl rfl el34 in27 rfl (by omega) (by omega) (by omega) fun w3 hw3 => ?_)
  refine TL_q rfl (QV_assign rfl) ?_
  refine TL_nil ?_
  refine W_seq (by kernel_rfl) ?_
  -- R3
  refine W_reg (l := [⟨some 17, Op.move (Operand.tmp 0), 3, none⟩, ⟨some 18, Op.makeSlice 34 (Operand.tmp 17) (Operand.tmp 17), 34, none⟩, ⟨some 6, Op.assign (Operand.tmp 18), 34, none⟩]) (by kernel_rfl) (by kernel_rfl) ?_
  refine TL_q rfl (QV_move rfl) ?_
  refine TL_e (EV_make1 rfl rfl rfl el34 in27 rfl (by omega) (by omega) (by omega) fun w4 hw4 => ?_)
  have z2 := hw2.size
  have z3 := hw3.size
  have z4 := hw4.size
  obtain ⟨s, hs⟩ : ∃ s, s = w.heap.size := ⟨_, rfl⟩
  have e2 : w.heap.size = s := hs.symm
  have e3 : w2.heap.size = s + 1 := by omega
  have e4 : w3.heap.size = s + 2 := by omega
  rw [e2, e3, e4]
  have bb1 : Blk w4.heap s 27 (List.replicate n nilS) := by have := (hw2.blk.fr hw3.fr (fun h => h)).fr hw4.fr (fun h => h); rw [e2] at this; exact this
  have bb2 : Blk w4.heap (s + 1) 27 (List.replicate n nilS) := by have := hw3.blk.fr hw4.fr (fun h => h); rw [e3] at this; exact this
  have bb3 : Blk w4.heap (s + 2) 27 (List.replicate n nilS) := by have := hw4.blk; rw [e4] at this; exact this
  have ff : Fr (fun _ => False) w w4 := ((Fr.refl _ w).newb hw2 |>.newb hw3).newb hw4
  refine TL_q rfl (QV_assign rfl) ?_
  refine TL_nil ?_
  refine W_seq (by kernel_rfl) ?_
  refine W_seq (by kernel_rfl) ?_
  -- R4
  refine W_reg (l := [⟨some 7, Op.assign (Operand.const (Value.int IntKind.i64 0)), 3, none⟩]) (by kernel_rfl) (by kernel_rfl) ?_
  refine TL_q rfl (QV_assign rfl) ?_
  refine TL_nil ?_
  refine W_block 0 (by kernel_rfl) ?_
  refine W_loop (fun (k : Nat) w1 => k ≤ D.length ∧ Fr (fun _ => False) w w1 ∧ s + 3 ≤ w1.heap.size ∧ Tabs w1.heap s n (idxH D n k) (idxU D n k) (idxE D n k)) (fun k => [(1, .slice a D.length c), (4, .slice (some ⟨s, 0, none⟩) n n), (5, .slice (some ⟨s + 1, 0, none⟩) n n), (6, .slice (some ⟨s + 2, 0, none⟩) n n), (7, .int .i64 (k : Int))]) (fun k => D.length - k) 0 (by kernel_rfl) ?_ ?_ ?_
  · exact ⟨Nat.zero_le _, ff, by omega, fun _ => (0, 0), _, _, _, Tab.fresh bb1, Tab.fresh bb2, Tab.fresh bb3⟩
  · exact ⟨rfl, rfl, rfl, rfl, rfl, trivial⟩
  rintro k w1 ⟨hk, hfr, hlo, htabs⟩
  refine W_seq (by kernel_rfl) ?_
  refine W_seq (by kernel_rfl) ?_
  -- R5
  refine W_reg (l := [⟨some 19, Op.move (Operand.tmp 7), 3, none⟩, ⟨some 20, Op.move (Operand.tmp 1), 22, none⟩, ⟨some 21, Op.call { callee := Callee.builtin Builtin.len, args := #[Operand.tmp 20], argTypes := #[22] }, 3, none⟩, ⟨some 22, Op.binOp BinOp.lss 3 (Operand.tmp 19) (Operand.tmp 21) 3, 4, none⟩]) (by kernel_rfl) (by kernel_rfl) ?_
  refine TL_q rfl (QV_move rfl) ?_
  refine TL_q rfl (QV_move rfl) ?_
  refine TL_q rfl (QV_len rfl el22) ?_
  refine TL_q rfl (QV_lss rfl rfl) ?_
  refine TL_nil ?_
  refine W_cond (c := Operand.tmp 22) (by kernel_rfl) rfl (fun hc22 => ?_) (fun hc22 => ?_)
  ·
    have hlt : k < D.length := by have := of_decide_eq_true hc22; omega
    obtain ⟨b, o, rfl, hbB, hcel⟩ := hp (by omega)
    obtain ⟨g1, va, vu, g2, g3, hva, hvu⟩ := hcel k hlt
    obtain ⟨aa, ca, rfl, hca, hpa⟩ := hva.nat
    obtain ⟨au, cu, rfl, hcu, hpu⟩ := hvu.nat
    have hokk := hok _ (getD_mem rl0 hlt)
    have hhead : (D.getD k rl0).head < n := hokk.1
    have htt := totD D k hlt
    have htl := tot_take_le (D.map Rl.rd) (k + 1)
    have hall : ∀ j, j < (D.getD k rl0).all.length → (D.getD k rl0).all.getD j 0 < n := fun j hj => hokk.2.1 _ (getD_mem 0 hj)
    have hunl : ∀ j, j < (D.getD k rl0).unl.length → (D.getD k rl0).unl.getD j 0 < n := fun j hj => hokk.2.2 _ (getD_mem 0 hj)
    obtain ⟨own, vs0, vs1, vs2, ht0, ht1, ht2⟩ := htabs
    refine W_skip (by kernel_rfl) ?_
    refine W_seq (by kernel_rfl) ?_
    refine W_block 1 (by kernel_rfl) ?_
    refine W_seq (by kernel_rfl) ?_
    -- R7
    refine W_reg (l := [⟨some 25, Op.move (Operand.tmp 1), 22, none⟩, ⟨some 26, Op.move (Operand.tmp 7), 3, none⟩, ⟨some 27, Op.indexAddr 22 (Operand.tmp 25) (Operand.tmp 26), 0, none⟩, ⟨some 28, Op.fieldAddr 33 (Operand.tmp 27) 0, 0, none⟩, ⟨some 29, Op.load 3 (Operand.tmp 28), 3, none⟩, ⟨some 8, Op.assign (Operand.tmp 29), 3, none⟩]) (by kernel_rfl) (by kernel_rfl) ?_
    refine TL_q rfl (QV_move rfl) ?_
    refine TL_q rfl (QV_move rfl) ?_
    refine TL_q rfl (QV_idx rfl rfl el22 sz33 (hlt)) ?_
    refine TL_q rfl (QV_field0 rfl fld33_0) ?_
    refine TL_q rfl (QV_load rfl one3 (cel_fr g1 hfr (fun h => h))) ?_
    refine TL_q rfl (QV_assign rfl) ?_
    refine TL_nil ?_
    refine W_seq (by kernel_rfl) ?_
    -- R8
    refine W_reg (l := [⟨some 30, Op.move (Operand.tmp 4), 34, none⟩, ⟨some 31, Op.move (Operand.tmp 8), 3, none⟩, ⟨some 32, Op.move (Operand.tmp 4), 34, none⟩, ⟨some 33, Op.move (Operand.tmp 8), 3, none⟩, ⟨some 34, Op.indexAddr 34 (Operand.tmp 32) (Operand.tmp 33), 0, none⟩, ⟨some 35, Op.load 27 (Operand.tmp 34), 27, none⟩, ⟨some 36, Op.move (Operand.tmp 7), 3, none⟩, ⟨some 37, Op.buildSlice 27 1 #[(0, Operand.tmp 36)], 27, none⟩, ⟨some 38, Op.call { callee := Callee.builtin Builtin.append, args := #[Operand.tmp 35, Operand.tmp 37], argTypes := #[27, 27] }, 27, none⟩, ⟨some 39, Op.indexAddr 34 (Operand.tmp 30) (Operand.tmp 31), 0, none⟩, ⟨none, Op.store 27 (Operand.tmp 39) (Operand.tmp 38), 0, none⟩]) (by kernel_rfl) (by kernel_rfl) ?_
    refine TL_q rfl (QV_move rfl) ?_
    refine TL_q rfl (QV_move rfl) ?_
    refine TL_q rfl (QV_move rfl) ?_
    refine TL_q rfl (QV_move rfl) ?_
    refine TL_q rfl (QV_idx1 rfl rfl el34 sz27 (hhead)) ?_
    refine TL_q rfl (QV_load rfl one27 (ht0.cel hhead)) ?_
    refine TL_q rfl (QV_move rfl) ?_
    refine TL_e (EV_lit1 rfl rfl rfl el27 in3 rfl fun x2 hx2 => ?_)
    refine TL_e (EV_append rfl rfl rfl el27 in3 rfl (by decide) ((ht0.row _ hhead).fr hx2.fr (fun _ _ h => h)) rfl (news1 hx2.blk) (one1 rfl) (by have := idxH_short D n k (D.getD k rl0).head; omega) (by have := idxH_short D n k (D.getD k rl0).head; omega) fun v' x3 hrow h23 hat => ?_)
    obtain ⟨a', c', rfl, -⟩ := hrow.form
    refine TL_q rfl (QV_idx1 rfl rfl el34 sz27 (hhead)) ?_
    refine TL_e (EV_store rfl rfl rfl sz27 ((ht0.blk.fr hx2.fr (fun h => h)).fr h23 (fun e => by have := (ht0.own _ hhead _ e).2; omega)) (by rw [ht0.len]; exact hhead) fun x4 h34 => ?_)
    have hs2 := hx2.size
    have hs3 := h23.size
    have hs4 := h34.size
    have hfrA : Fr (fun _ => False) w x4 := ((hfr.newb hx2).step h23 (fun i hi _ e => by have := (ht0.own _ hhead _ e).2; omega)).upd h34 (by omega)
    have htabsA : Tabs x4.heap s n (idxH D n (k + 1)) (idxU D n k) (idxE D n k) := ⟨_, _, _, _, ht0.push hhead hlo (by omega) hx2 hrow h23 hat h34, ht0.push_other ht1 (by decide) (by omega) hhead (by omega) (by omega) hx2 h23 h34, ht0.push_other ht2 (by decide) (by omega) hhead (by omega) (by omega) hx2 h23 h34⟩
    have hloA : s + 3 ≤ x4.heap.size := by omega
    refine TL_nil ?_
    refine W_seq (by kernel_rfl) ?_
    refine W_seq (by kernel_rfl) ?_
    -- R9
    refine W_reg (l := [⟨some 40, Op.move (Operand.tmp 1), 22, none⟩, ⟨some 41, Op.move (Operand.tmp 7), 3, none⟩, ⟨some 42, Op.indexAddr 22 (Operand.tmp 40) (Operand.tmp 41), 0, none⟩, ⟨some 43, Op.fieldAddr 33 (Operand.tmp 42) 1, 0, none⟩, ⟨some 44, Op.load 27 (Operand.tmp 43), 27, none⟩, ⟨some 45, Op.call { callee := Callee.builtin Builtin.len, args := #[Operand.tmp 44], argTypes := #[27] }, 3, none⟩, ⟨some 46, Op.move (Operand.const (Value.int IntKind.i64 0)), 3, none⟩]) (by kernel_rfl) (by kernel_rfl) ?_
    refine TL_q rfl (QV_move rfl) ?_
    refine TL_q rfl (QV_move rfl) ?_
    refine TL_q rfl (QV_idx rfl rfl el22 sz33 (hlt)) ?_
    refine TL_q rfl (QV_field rfl fld33_1) ?_
    refine TL_q rfl (QV_load rfl one27 (cel_fr g2 hfrA (fun h => h))) ?_
    refine TL_q rfl (QV_len rfl el27) ?_
    refine TL_q rfl (QV_move rfl) ?_
    refine TL_nil ?_
    refine W_block 2 (by kernel_rfl) ?_
    refine W_loop (fun (j : Nat) w1 => j ≤ (D.getD k rl0).all.length ∧ Fr (fun _ => False) w w1 ∧ s + 3 ≤ w1.heap.size ∧ Tabs w1.heap s n (idxH D n (k + 1)) (addAll (idxU D n k) k ((D.getD k rl0).all.take j)) (idxE D n k)) (fun j => [(1, .slice (some ⟨b, o, none⟩) D.length c), (4, .slice (some ⟨s, 0, none⟩) n n), (5, .slice (some ⟨s + 1, 0, none⟩) n n), (6, .slice (some ⟨s + 2, 0, none⟩) n n), (7, .int .i64 (k : Int)), (44, .slice aa (D.getD k rl0).all.length ca), (45, .int .i64 ((D.getD k rl0).all.length : Nat)), (46, .int .i64 (j : Int))]) (fun j => (D.getD k rl0).all.length - j) 0 (by kernel_rfl) ?_ ?_ ?_
    · exact ⟨Nat.zero_le _, hfrA, hloA, htabsA⟩
    · exact ⟨rfl, rfl, rfl, rfl, rfl, rfl, rfl, rfl, trivial⟩
    rintro j w5 ⟨hj, hfr5, hlo, htabs5⟩
    refine W_seq (by kernel_rfl) ?_
    -- R10
    refine W_reg (l := [⟨some 47, Op.binOp BinOp.lss 3 (Operand.tmp 46) (Operand.tmp 45) 3, 0, none⟩]) (by kernel_rfl) (by kernel_rfl) ?_
    refine TL_q rfl (QV_lss rfl rfl) ?_
    refine TL_nil ?_
    refine W_seq (by kernel_rfl) ?_
    refine W_cond (c := Operand.tmp 47) (by kernel_rfl) rfl (fun hc47 => ?_) (fun hc47 => ?_)
    ·
      have hjl : j < (D.getD k rl0).all.length := by have := of_decide_eq_true hc47; omega
      obtain ⟨ab, ao, rfl, habB, hacel⟩ := hpa (by omega)
      obtain ⟨own5, vs0, vs1, vs2, ht0, ht1, ht2⟩ := htabs5
      have haj := hall j hjl
      refine W_skip (by kernel_rfl) ?_
      refine W_seq (by kernel_rfl) ?_
      refine W_block 3 (by kernel_rfl) ?_
      refine W_seq (by kernel_rfl) ?_
      -- R11
      refine W_reg (l := [⟨some 48, Op.indexAddr 27 (Operand.tmp 44) (Operand.tmp 46), 0, none⟩, ⟨some 49, Op.load 3 (Operand.tmp 48), 3, none⟩, ⟨some 10, Op.assign (Operand.tmp 49), 3, none⟩]) (by kernel_rfl) (by kernel_rfl) ?_
      refine TL_q rfl (QV_idxO rfl rfl el27 sz3 (hjl)) ?_
      refine TL_q rfl (QV_load rfl one3 (cel_fr (hacel j hjl) hfr5 (fun h => h))) ?_
      refine TL_q rfl (QV_assign rfl) ?_
      refine TL_nil ?_
      -- R12
      refine W_reg (l := [⟨some 50, Op.move (Operand.tmp 5), 34, none⟩, ⟨some 51, Op.move (Operand.tmp 10), 3, none⟩, ⟨some 52, Op.move (Operand.tmp 5), 34, none⟩, ⟨some 53, Op.move (Operand.tmp 10), 3, none⟩, ⟨some 54, Op.indexAddr 34 (Operand.tmp 52) (Operand.tmp 53), 0, none⟩, ⟨some 55, Op.load 27 (Operand.tmp 54), 27, none⟩, ⟨some 56, Op.move (Operand.tmp 7), 3, none⟩, ⟨some 57, Op.buildSlice 27 1 #[(0, Operand.tmp 56)], 27, none⟩, ⟨some 58, Op.call { callee := Callee.builtin Builtin.append, args := #[Operand.tmp 55, Operand.tmp 57], argTypes := #[27, 27] }, 27, none⟩, ⟨some 59, Op.indexAddr 34 (Operand.tmp 50) (Operand.tmp 51), 0, none⟩, ⟨none, Op.store 27 (Operand.tmp 59) (Operand.tmp 58), 0, none⟩]) (by kernel_rfl) (by kernel_rfl) ?_
      refine TL_q rfl (QV_move rfl) ?_
      refine TL_q rfl (QV_move rfl) ?_
      refine TL_q rfl (QV_move rfl) ?_
      refine TL_q rfl (QV_move rfl) ?_
      refine TL_q rfl (QV_idx1 rfl rfl el34 sz27 (haj)) ?_
      refine TL_q rfl (QV_load rfl one27 (ht1.cel haj)) ?_
      refine TL_q rfl (QV_move rfl) ?_
      refine TL_e (EV_lit1 rfl rfl rfl el27 in3 rfl fun x2 hx2 => ?_)
      refine TL_e (EV_append rfl rfl rfl el27 in3 rfl (by decide) ((ht1.row _ haj).fr hx2.fr (fun _ _ h => h)) rfl (news1 hx2.blk) (one1 rfl) (by have := (((idxU_short D n k (by omega)).all k ((D.getD k rl0).all.take j))) ((D.getD k rl0).all.getD j 0); have := List.length_take_le j (D.getD k rl0).all; have := List.length_take_le' j (D.getD k rl0).all; omega) (by have := (((idxU_short D n k (by omega)).all k ((D.getD k rl0).all.take j))) ((D.getD k rl0).all.getD j 0); have := List.length_take_le j (D.getD k rl0).all; have := List.length_take_le' j (D.getD k rl0).all; omega) fun v' x3 hrow h23 hat => ?_)
      obtain ⟨a', c', rfl, -⟩ := hrow.form
      refine TL_q rfl (QV_idx1 rfl rfl el34 sz27 (haj)) ?_
      refine TL_e (EV_store rfl rfl rfl sz27 ((ht1.blk.fr hx2.fr (fun h => h)).fr h23 (fun e => by have := (ht1.own _ haj _ e).2; omega)) (by rw [ht1.len]; exact haj) fun x4 h34 => ?_)
      have hs2 := hx2.size
      have hs3 := h23.size
      have hs4 := h34.size
      have hfrB : Fr (fun _ => False) w x4 := ((hfr5.newb hx2).step h23 (fun i hi _ e => by have := (ht1.own _ haj _ e).2; omega)).upd h34 (by omega)
      have htabsB : Tabs x4.heap s n (idxH D n (k + 1)) (addTo (addAll (idxU D n k) k ((D.getD k rl0).all.take j)) ((D.getD k rl0).all.getD j 0) k) (idxE D n k) := ⟨_, _, _, _, ht1.push_other ht0 (by decide) (by omega) haj (by omega) (by omega) hx2 h23 h34, ht1.push haj hlo (by omega) hx2 hrow h23 hat h34, ht1.push_other ht2 (by decide) (by omega) haj (by omega) (by omega) hx2 h23 h34⟩
      have hloB : s + 3 ≤ x4.heap.size := by omega
      refine TL_nil ?_
      -- R13
      refine W_reg (l := [⟨some 60, Op.binOp BinOp.add 3 (Operand.tmp 46) (Operand.const (Value.int IntKind.i64 1)) 3, 3, none⟩, ⟨some 46, Op.move (Operand.tmp 60), 3, none⟩]) (by kernel_rfl) (by kernel_rfl) ?_
      refine TL_q rfl (QV_add (r := ((j + 1 : Nat) : Int)) rfl rfl (by omega) (by omega) (by omega)) ?_
      refine TL_q rfl (QV_move rfl) ?_
      refine TL_nil ?_
      exact ⟨j + 1, ⟨by omega, hfrB, hloB, by rw [addAll_take_succ _ _ _ _ hjl]; exact htabsB⟩, ⟨rfl, rfl, rfl, rfl, rfl, rfl, rfl, rfl, trivial⟩, by omega⟩
    ·
      have hja : j = (D.getD k rl0).all.length := by have := of_decide_eq_false hc47; omega
      subst hja
      rw [List.take_length] at htabs5
      refine W_exit 2 (by kernel_rfl) ?_
      show T Try.prog 85 (C Try.f20 [1, 1, 1, 0, 0, 1, 0, 0, 1, 0, 1, 1, 1, 1]) _ _ _
      refine W_seq (by kernel_rfl) ?_
      -- R14
      refine W_reg (l := [⟨some 61, Op.move (Operand.tmp 1), 22, none⟩, ⟨some 62, Op.move (Operand.tmp 7), 3, none⟩, ⟨some 63, Op.indexAddr 22 (Operand.tmp 61) (Operand.tmp 62), 0, none⟩, ⟨some 64, Op.fieldAddr 33 (Operand.tmp 63) 2, 0, none⟩, ⟨some 65, Op.load 27 (Operand.tmp 64), 27, none⟩, ⟨some 66, Op.call { callee := Callee.builtin Builtin.len, args := #[Operand.tmp 65], argTypes := #[27] }, 3, none⟩, ⟨some 67, Op.move (Operand.const (Value.int IntKind.i64 0)), 3, none⟩]) (by kernel_rfl) (by kernel_rfl) ?_
      refine TL_q rfl (QV_move rfl) ?_
      refine TL_q rfl (QV_move rfl) ?_
      refine TL_q rfl (QV_idx rfl rfl el22 sz33 (hlt)) ?_
      refine TL_q rfl (QV_field rfl fld33_2) ?_
      refine TL_q rfl (QV_load rfl one27 (cel_fr g3 hfr5 (fun h => h))) ?_
      refine TL_q rfl (QV_len rfl el27) ?_
      refine TL_q rfl (QV_move rfl) ?_
      refine TL_nil ?_
      refine W_block 4 (by kernel_rfl) ?_
      refine W_loop (fun (j : Nat) w1 => j ≤ (D.getD k rl0).unl.length ∧ Fr (fun _ => False) w w1 ∧ s + 3 ≤ w1.heap.size ∧ Tabs w1.heap s n (idxH D n (k + 1)) (idxU D n (k + 1)) (addAll (idxE D n k) k ((D.getD k rl0).unl.take j))) (fun j => [(1, .slice (some ⟨b, o, none⟩) D.length c), (4, .slice (some ⟨s, 0, none⟩) n n), (5, .slice (some ⟨s + 1, 0, none⟩) n n), (6, .slice (some ⟨s + 2, 0, none⟩) n n), (7, .int .i64 (k : Int)), (65, .slice au (D.getD k rl0).unl.length cu), (66, .int .i64 ((D.getD k rl0).unl.length : Nat)), (67, .int .i64 (j : Int))]) (fun j => (D.getD k rl0).unl.length - j) 0 (by kernel_rfl) ?_ ?_ ?_
      · exact ⟨Nat.zero_le _, hfr5, hlo, htabs5⟩
      · exact ⟨rfl, rfl, rfl, rfl, rfl, rfl, rfl, rfl, trivial⟩
      rintro j w6 ⟨hj, hfr6, hlo, htabs6⟩
      refine W_seq (by kernel_rfl) ?_
      -- R15
      refine W_reg (l := [⟨some 68, Op.binOp BinOp.lss 3 (Operand.tmp 67) (Operand.tmp 66) 3, 0, none⟩]) (by kernel_rfl) (by kernel_rfl) ?_
      refine TL_q rfl (QV_lss rfl rfl) ?_
      refine TL_nil ?_
      refine W_seq (by kernel_rfl) ?_
      refine W_cond (c := Operand.tmp 68) (by kernel_rfl) rfl (fun hc68 => ?_) (fun hc68 => ?_)
      ·
        have hjl : j < (D.getD k rl0).unl.length := by have := of_decide_eq_true hc68; omega
        obtain ⟨ab, ao, rfl, habB, hacel⟩ := hpu (by omega)
        obtain ⟨own6, vs0, vs1, vs2, ht0, ht1, ht2⟩ := htabs6
        have haj := hunl j hjl
        refine W_skip (by kernel_rfl) ?_
        refine W_seq (by kernel_rfl) ?_
        refine W_block 5 (by kernel_rfl) ?_
        refine W_seq (by kernel_rfl) ?_
        -- R16
        refine W_reg (l := [⟨some 69, Op.indexAddr 27 (Operand.tmp 65) (Operand.tmp 67), 0, none⟩, ⟨some 70, Op.load 3 (Operand.tmp 69), 3, none⟩, ⟨some 12, Op.assign (Operand.tmp 70), 3, none⟩]) (by kernel_rfl) (by kernel_rfl) ?_
        refine TL_q rfl (QV_idxO rfl rfl el27 sz3 (hjl)) ?_
        refine TL_q rfl (QV_load rfl one3 (cel_fr (hacel j hjl) hfr6 (fun h => h))) ?_
        refine TL_q rfl (QV_assign rfl) ?_
        refine TL_nil ?_
        -- R17
        refine W_reg (l := [⟨some 71, Op.move (Operand.tmp 6), 34, none⟩, ⟨some 72, Op.move (Operand.tmp 12), 3, none⟩, ⟨some 73, Op.move (Operand.tmp 6), 34, none⟩, ⟨some 74, Op.move (Operand.tmp 12), 3, none⟩, ⟨some 75, Op.indexAddr 34 (Operand.tmp 73) (Operand.tmp 74), 0, none⟩, ⟨some 76, Op.load 27 (Operand.tmp 75), 27, none⟩, ⟨some 77, Op.move (Operand.tmp 7), 3, none⟩, ⟨some 78, Op.buildSlice 27 1 #[(0, Operand.tmp 77)], 27, none⟩, ⟨some 79, Op.call { callee := Callee.builtin Builtin.append, args := #[Operand.tmp 76, Operand.tmp 78], argTypes := #[27, 27] }, 27, none⟩, ⟨some 80, Op.indexAddr 34 (Operand.tmp 71) (Operand.tmp 72), 0, none⟩, ⟨none, Op.store 27 (Operand.tmp 80) (Operand.tmp 79), 0, none⟩]) (by kernel_rfl) (by kernel_rfl) ?_
        refine TL_q rfl (QV_move rfl) ?_
        refine TL_q rfl (QV_move rfl) ?_
        refine TL_q rfl (QV_move rfl) ?_
        refine TL_q rfl (QV_move rfl) ?_
        refine TL_q rfl (QV_idx1 rfl rfl el34 sz27 (haj)) ?_
        refine TL_q rfl (QV_load rfl one27 (ht2.cel haj)) ?_
        refine TL_q rfl (QV_move rfl) ?_
        refine TL_e (EV_lit1 rfl rfl rfl el27 in3 rfl fun x2 hx2 => ?_)
        refine TL_e (EV_append rfl rfl rfl el27 in3 rfl (by decide) ((ht2.row _ haj).fr hx2.fr (fun _ _ h => h)) rfl (news1 hx2.blk) (one1 rfl) (by have := (((idxE_short D n k (by omega)).all k ((D.getD k rl0).unl.take j))) ((D.getD k rl0).unl.getD j 0); have := List.length_take_le j (D.getD k rl0).unl; have := List.length_take_le' j (D.getD k rl0).unl; omega) (by have := (((idxE_short D n k (by omega)).all k ((D.getD k rl0).unl.take j))) ((D.getD k rl0).unl.getD j 0); have := List.length_take_le j (D.getD k rl0).unl; have := List.length_take_le' j (D.getD k rl0).unl; omega) fun v' x3 hrow h23 hat => ?_)
        obtain ⟨a', c', rfl, -⟩ := hrow.form
        refine TL_q rfl (QV_idx1 rfl rfl el34 sz27 (haj)) ?_
        refine TL_e (EV_store rfl rfl rfl sz27 ((ht2.blk.fr hx2.fr (fun h => h)).fr h23 (fun e => by have := (ht2.own _ haj _ e).2; omega)) (by rw [ht2.len]; exact haj) fun x4 h34 => ?_)
        have hs2 := hx2.size
        have hs3 := h23.size
        have hs4 := h34.size
        have hfrC : Fr (fun _ => False) w x4 := ((hfr6.newb hx2).step h23 (fun i hi _ e => by have := (ht2.own _ haj _ e).2; omega)).upd h34 (by omega)
        have htabsC : Tabs x4.heap s n (idxH D n (k + 1)) (idxU D n (k + 1)) (addTo (addAll (idxE D n k) k ((D.getD k rl0).unl.take j)) ((D.getD k rl0).unl.getD j 0) k) := ⟨_, _, _, _, ht2.push_other ht0 (by decide) (by omega) haj (by omega) (by omega) hx2 h23 h34, ht2.push_other ht1 (by decide) (by omega) haj (by omega) (by omega) hx2 h23 h34, ht2.push haj hlo (by omega) hx2 hrow h23 hat h34⟩
        have hloC : s + 3 ≤ x4.heap.size := by omega
        refine TL_nil ?_
        -- R18
        refine W_reg (l := [⟨some 81, Op.binOp BinOp.add 3 (Operand.tmp 67) (Operand.const (Value.int IntKind.i64 1)) 3, 3, none⟩, ⟨some 67, Op.move (Operand.tmp 81), 3, none⟩]) (by kernel_rfl) (by kernel_rfl) ?_
        refine TL_q rfl (QV_add (r := ((j + 1 : Nat) : Int)) rfl rfl (by omega) (by omega) (by omega)) ?_
        refine TL_q rfl (QV_move rfl) ?_
        refine TL_nil ?_
        exact ⟨j + 1, ⟨by omega, hfrC, hloC, by rw [addAll_take_succ _ _ _ _ hjl]; exact htabsC⟩, ⟨rfl, rfl, rfl, rfl, rfl, rfl, rfl, rfl, trivial⟩, by omega⟩
      ·
        have hja : j = (D.getD k rl0).unl.length := by have := of_decide_eq_false hc68; omega
        subst hja
        rw [List.take_length] at htabs6
        refine W_exit 4 (by kernel_rfl) ?_
        show T Try.prog 85 (C Try.f20 [1, 1, 0, 0, 1, 0, 1, 1, 1, 1]) _ _ _
        -- R6
        refine W_reg (l := [⟨some 23, Op.move (Operand.tmp 7), 3, none⟩, ⟨some 24, Op.binOp BinOp.add 3 (Operand.tmp 23) (Operand.const (Value.int IntKind.i64 1)) 3, 3, none⟩, ⟨some 7, Op.assign (Operand.tmp 24), 3, none⟩]) (by kernel_rfl) (by kernel_rfl) ?_
        refine TL_q rfl (QV_move rfl) ?_
        refine TL_q rfl (QV_add (r := ((k + 1 : Nat) : Int)) rfl rfl (by omega) (by omega) (by omega)) ?_
        refine TL_q rfl (QV_assign rfl) ?_
        refine TL_nil ?_
        exact ⟨k + 1, ⟨by omega, hfr6, hlo, htabs6⟩, ⟨rfl, rfl, rfl, rfl, rfl, trivial⟩, by omega⟩
  ·
    have hge : k = D.length := by have := of_decide_eq_false hc22; omega
    subst hge
    refine W_exit 0 (by kernel_rfl) ?_
    show T Try.prog 85 (C Try.f20 [1, 1, 1, 1, 1]) _ _ _
    refine W_seq (by kernel_rfl) ?_
    -- R19
    refine W_reg (l := [⟨some 82, Op.move (Operand.tmp 4), 34, none⟩, ⟨some 83, Op.move (Operand.tmp 5), 34, none⟩, ⟨some 84, Op.move (Operand.tmp 6), 34, none⟩, ⟨some 4, Op.assign (Operand.tmp 82), 34, none⟩, ⟨some 5, Op.assign (Operand.tmp 83), 34, none⟩, ⟨some 6, Op.assign (Operand.tmp 84), 34, none⟩]) (by kernel_rfl) (by kernel_rfl) ?_
    refine TL_q rfl (QV_move rfl) ?_
    refine TL_q rfl (QV_move rfl) ?_
    refine TL_q rfl (QV_move rfl) ?_
    refine TL_q rfl (QV_assign rfl) ?_
    refine TL_q rfl (QV_assign rfl) ?_
    refine TL_q rfl (QV_assign rfl) ?_
    refine TL_nil ?_
    refine W_ret (by kernel_rfl) ?_
    obtain ⟨own, vs0, vs1, vs2, ht0, ht1, ht2⟩ := htabs
    refine ⟨_, rfl, hfr, _, _, _, rfl, ?_, ?_, ?_⟩
    · exact ht0.at ⟨by omega, by omega⟩ (fun g h1 h2 => ⟨by omega, h2⟩)
    · exact ht1.at ⟨by omega, by omega⟩ (fun g h1 h2 => ⟨by omega, h2⟩)
    · exact ht2.at ⟨by omega, by omega⟩ (fun g h1 h2 => ⟨by omega, h2⟩)

end Go.Proofs.Qxb6600121a
