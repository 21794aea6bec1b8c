/-
   Walks written by program (wip/gen).
-/
import Derived.Test.Qxb6600121aTabs
namespace Go.Proofs.Qxb6600121a
open Go Go.Proofs
set_option linter.unusedVariables false
set_option linter.unusedSimpArgs false

theorem getD_rep {α : Type} (n x : Nat) (d : α) : (List.replicate n d).getD x d = d := by
  simp only [List.getD_eq_getElem?_getD, List.getElem?_replicate]
  split <;> rfl
def prevE (ends : List Nat) (k : Nat) : Nat := match k with
  | 0 => 0
  | k + 1 => ends.getD k 0
theorem prevE_succ (ends : List Nat) (k : Nat) : prevE ends (k + 1) = ends.getD k 0 := rfl
/-- 'atoms' lists 0 .. n-1, each once; 'ends' cuts it into pieces that are not empty. -/
structure Part (n : Nat) (atoms ends : List Nat) : Prop where
  len : atoms.length = n
  lt : ∀ i, i < n → atoms.getD i 0 < n
  inj : ∀ i j, i < j → j < n → atoms.getD i 0 ≠ atoms.getD j 0
  inc : ∀ k, k < ends.length → prevE ends k < ends.getD k 0 ∧ ends.getD k 0 ≤ n
  last : prevE ends ends.length = n
set_option maxRecDepth 10000 in
theorem partitionWalk (w : World) (B : Nat → Prop) (n : Nat) (hn : n ≤ 65536) (av ev : Value) (atoms ends : List Nat) (hA : IntsAt w.heap B av (casts atoms)) (hE : IntsAt w.heap B ev (casts ends)) (hP : Part n atoms ends) (hel : ends.length ≤ 1048576) :
    CallsS Try.prog 16 #[.int .i64 (n : Int), av, ev] w (fun r w' => r = .bool true ∧ Fr (fun _ => False) w w') := by
  obtain ⟨aa, ca, rfl, hca, hpa⟩ := hA.nat
  obtain ⟨ae, ce, rfl, hce, hpe⟩ := hE.nat
  refine W_fun [6] Try.func16 rfl Try.ntmps16 Try.results16 (Nat.le_of_ble_eq_true rfl) ?_
  refine W_seq (by kernel_rfl) ?_
  -- R0
  refine W_reg (l := [⟨some 6, Op.assign (Operand.const (Value.bool false)), 4, none⟩]) (by kernel_rfl) (by kernel_rfl) ?_
  refine TL_q rfl (QV_assign rfl) ?_
  refine TL_nil ?_
  refine W_seq (by kernel_rfl) ?_
  refine W_seq (by kernel_rfl) ?_
  -- R1
  refine W_reg (l := [⟨some 12, Op.move (Operand.tmp 1), 27, none⟩, ⟨some 13, Op.call { callee := Callee.builtin Builtin.len, args := #[Operand.tmp 12], argTypes := #[27] }, 3, none⟩, ⟨some 14, Op.move (Operand.tmp 0), 3, none⟩, ⟨some 15, Op.binOp BinOp.neq 3 (Operand.tmp 13) (Operand.tmp 14) 3, 4, none⟩]) (by kernel_rfl) (by kernel_rfl) ?_
  refine TL_q rfl (QV_move rfl) ?_
  refine TL_q rfl (QV_len rfl el27) ?_
  refine TL_q rfl (QV_move rfl) ?_
  refine TL_q rfl (QV_neq rfl rfl) ?_
  refine TL_nil ?_
  refine W_cond (c := Operand.tmp 15) (by kernel_rfl) rfl (fun hc15 => ?_) (fun hc15 => ?_)
  ·
    exact absurd (of_decide_eq_true hc15) (by have := hP.len; omega)
  ·
    have hlen := hP.len
    refine W_skip (by kernel_rfl) ?_
    refine W_seq (by kernel_rfl) ?_
    -- R3
    refine W_reg (l := [⟨some 16, Op.move (Operand.tmp 0), 3, none⟩, ⟨some 17, Op.makeSlice 37 (Operand.tmp 16) (Operand.tmp 16), 37, none⟩, ⟨some 7, Op.assign (Operand.tmp 17), 37, none⟩]) (by kernel_rfl) (by kernel_rfl) ?_
    refine TL_q rfl (QV_move rfl) ?_
    refine TL_e (EV_make1 rfl rfl rfl el37 in4 rfl (by omega) (by omega) (by omega) fun w2 h2 => ?_)
    have hb2 : Blk w2.heap w.heap.size 4 (bools (List.replicate n false)) := by have := h2.blk; rw [bools_rep] at this; exact this
    refine TL_q rfl (QV_assign rfl) ?_
    refine TL_nil ?_
    refine W_seq (by kernel_rfl) ?_
    refine W_seq (by kernel_rfl) ?_
    -- R4
    refine W_reg (l := [⟨some 8, Op.assign (Operand.const (Value.int IntKind.i64 0)), 3, none⟩]) (by kernel_rfl) (by kernel_rfl) ?_
    refine TL_q rfl (QV_assign rfl) ?_
    refine TL_nil ?_
    refine W_block 0 (by kernel_rfl) ?_
    refine W_loop (ι := Nat × List Bool) (fun i w1 => i.1 ≤ n ∧ Fr (fun _ => False) w w1 ∧ Blk w1.heap w.heap.size 4 (bools i.2) ∧ i.2.length = n ∧ ∀ x, i.2.getD x false = true → ∃ j, j < i.1 ∧ atoms.getD j 0 = x) (fun i => [(0, .int .i64 (n : Int)), (1, .slice aa atoms.length ca), (2, .slice ae ends.length ce), (7, .slice (some ⟨w.heap.size, 0, none⟩) n n), (8, .int .i64 (i.1 : Int))]) (fun i => n - i.1) (0, List.replicate n false) (by kernel_rfl) ?_ ?_ ?_
    · exact ⟨Nat.zero_le _, h2.fr, hb2, by simp, fun x hx => by dsimp only at hx; rw [getD_rep] at hx; cases hx⟩
    · exact ⟨rfl, rfl, rfl, rfl, rfl, trivial⟩
    rintro ⟨k, bs⟩ w1 ⟨hk, fr, hb, hbl, hseen⟩
    dsimp only at hk hb hbl hseen ⊢
    refine W_seq (by kernel_rfl) ?_
    refine W_seq (by kernel_rfl) ?_
    -- R5
    refine W_reg (l := [⟨some 18, Op.move (Operand.tmp 8), 3, none⟩, ⟨some 19, Op.move (Operand.tmp 1), 27, none⟩, ⟨some 20, Op.call { callee := Callee.builtin Builtin.len, args := #[Operand.tmp 19], argTypes := #[27] }, 3, none⟩, ⟨some 21, Op.binOp BinOp.lss 3 (Operand.tmp 18) (Operand.tmp 20) 3, 4, none⟩]) (by kernel_rfl) (by kernel_rfl) ?_
    refine TL_q rfl (QV_move rfl) ?_
    refine TL_q rfl (QV_move rfl) ?_
    refine TL_q rfl (QV_len rfl el27) ?_
    refine TL_q rfl (QV_lss rfl rfl) ?_
    refine TL_nil ?_
    refine W_cond (c := Operand.tmp 21) (by kernel_rfl) rfl (fun hc21 => ?_) (fun hc21 => ?_)
    ·
      have hlt : k < n := by have := of_decide_eq_true hc21; omega
      have hlt2 : k < atoms.length := by omega
      obtain ⟨b, o, rfl, hbB, hcel⟩ := hpa (by omega)
      have hak := hP.lt k hlt
      refine W_skip (by kernel_rfl) ?_
      refine W_seq (by kernel_rfl) ?_
      refine W_block 1 (by kernel_rfl) ?_
      refine W_seq (by kernel_rfl) ?_
      -- R7
      refine W_reg (l := [⟨some 24, Op.move (Operand.tmp 1), 27, none⟩, ⟨some 25, Op.move (Operand.tmp 8), 3, none⟩, ⟨some 26, Op.indexAddr 27 (Operand.tmp 24) (Operand.tmp 25), 0, none⟩, ⟨some 27, Op.load 3 (Operand.tmp 26), 3, none⟩, ⟨some 9, Op.assign (Operand.tmp 27), 3, none⟩]) (by kernel_rfl) (by kernel_rfl) ?_
      refine TL_q rfl (QV_move rfl) ?_
      refine TL_q rfl (QV_move rfl) ?_
      refine TL_q rfl (QV_idxO rfl rfl el27 sz3 (hlt2)) ?_
      refine TL_q rfl (QV_load rfl one3 (cel_fr (hcel k hlt2) fr (fun h => h))) ?_
      refine TL_q rfl (QV_assign rfl) ?_
      refine TL_nil ?_
      refine W_seq (by kernel_rfl) ?_
      refine W_seq (by kernel_rfl) ?_
      -- R8
      refine W_reg (l := [⟨some 28, Op.move (Operand.tmp 9), 3, none⟩, ⟨some 29, Op.binOp BinOp.lss 3 (Operand.tmp 28) (Operand.const (Value.int IntKind.i64 0)) 3, 4, none⟩, ⟨some 30, Op.move (Operand.tmp 29), 4, none⟩, ⟨some 31, Op.move (Operand.tmp 9), 3, some (2, false)⟩, ⟨some 32, Op.move (Operand.tmp 0), 3, some (2, false)⟩, ⟨some 33, Op.binOp BinOp.geq 3 (Operand.tmp 31) (Operand.tmp 32) 3, 4, some (2, false)⟩, ⟨some 34, Op.pick (Operand.tmp 30) (Operand.const (Value.bool true)) (Operand.tmp 33), 4, none⟩, ⟨some 35, Op.move (Operand.tmp 34), 4, none⟩, ⟨some 36, Op.move (Operand.tmp 7), 37, some (7, false)⟩, ⟨some 37, Op.move (Operand.tmp 9), 3, some (7, false)⟩, ⟨some 38, Op.indexAddr 37 (Operand.tmp 36) (Operand.tmp 37), 0, some (7, false)⟩, ⟨some 39, Op.load 4 (Operand.tmp 38), 4, some (7, false)⟩, ⟨some 40, Op.pick (Operand.tmp 35) (Operand.const (Value.bool true)) (Operand.tmp 39), 4, none⟩]) (by kernel_rfl) (by kernel_rfl) ?_
      refine TL_q rfl (QV_move rfl) ?_
      refine TL_q rfl (QV_lss rfl rfl) ?_
      refine TL_q rfl (QV_move rfl) ?_
      refine TL_cases (t := 30) rfl (fun hb30 => ?_) (fun hb30 => ?_)
      ·
        exact absurd (of_decide_eq_true hb30) (by omega)
      ·
        refine TL_gq rfl rfl rfl rfl (QV_move rfl) ?_
        refine TL_gq rfl rfl rfl rfl (QV_move rfl) ?_
        refine TL_gq rfl rfl rfl rfl (QV_geq rfl rfl) ?_
        refine TL_q rfl (QV_pickF rfl rfl) ?_
        refine TL_q rfl (QV_move rfl) ?_
        refine TL_cases (t := 35) rfl (fun hb35 => ?_) (fun hb35 => ?_)
        ·
          exact absurd (of_decide_eq_true hb35) (by omega)
        ·
          refine TL_gq rfl rfl rfl rfl (QV_move rfl) ?_
          refine TL_gq rfl rfl rfl rfl (QV_move rfl) ?_
          refine TL_gq rfl rfl rfl rfl (QV_idx1 rfl rfl el37 sz4 (hak)) ?_
          refine TL_gq rfl rfl rfl rfl (QV_load rfl one4 (hb.cB (by omega))) ?_
          refine TL_q rfl (QV_pickF rfl rfl) ?_
          refine TL_nil ?_
          refine W_cond (c := Operand.tmp 40) (by kernel_rfl) rfl (fun hc40 => ?_) (fun hc40 => ?_)
          ·
            obtain ⟨j, hj, he⟩ := hseen _ hc40
            exact absurd he (hP.inj j k hj hlt)
          ·
            refine W_skip (by kernel_rfl) ?_
            -- R10
            refine W_reg (l := [⟨some 41, Op.move (Operand.tmp 7), 37, none⟩, ⟨some 42, Op.move (Operand.tmp 9), 3, none⟩, ⟨some 43, Op.indexAddr 37 (Operand.tmp 41) (Operand.tmp 42), 0, none⟩, ⟨none, Op.store 4 (Operand.tmp 43) (Operand.const (Value.bool true)), 0, none⟩]) (by kernel_rfl) (by kernel_rfl) ?_
            refine TL_q rfl (QV_move rfl) ?_
            refine TL_q rfl (QV_move rfl) ?_
            refine TL_q rfl (QV_idx1 rfl rfl el37 sz4 (hak)) ?_
            refine TL_e (EV_store rfl rfl rfl sz4 hb (by rw [bools_len]; omega) fun w3 u3 => ?_)
            have hb3 := u3.blk
            rw [bools_set] at hb3
            refine TL_nil ?_
            -- R6
            refine W_reg (l := [⟨some 22, Op.move (Operand.tmp 8), 3, none⟩, ⟨some 23, Op.binOp BinOp.add 3 (Operand.tmp 22) (Operand.const (Value.int IntKind.i64 1)) 3, 3, none⟩, ⟨some 8, Op.assign (Operand.tmp 23), 3, none⟩]) (by kernel_rfl) (by kernel_rfl) ?_
            refine TL_q rfl (QV_move rfl) ?_
            refine TL_q rfl (QV_add (r := ((k + 1 : Nat) : Int)) rfl rfl (by omega) (by omega) (by omega)) ?_
            refine TL_q rfl (QV_assign rfl) ?_
            refine TL_nil ?_
            refine ⟨(k + 1, bs.set (atoms.getD k 0) true), ⟨by omega, fr.upd u3 (Nat.le_refl _), hb3, by simp [hbl], fun x hx => ?_⟩, ⟨rfl, rfl, rfl, rfl, rfl, trivial⟩, by show n - (k + 1) < n - k; omega⟩
            dsimp only at hx ⊢
            by_cases hxa : atoms.getD k 0 = x
            · exact ⟨k, by omega, hxa⟩
            · rw [List.getD_eq_getElem?_getD, List.getElem?_set_ne hxa, ← List.getD_eq_getElem?_getD] at hx
              obtain ⟨j, hj, he⟩ := hseen x hx
              exact ⟨j, by omega, he⟩
    ·
      have hge : k = n := by have := of_decide_eq_false hc21; omega
      refine W_exit 0 (by kernel_rfl) ?_
      show T Try.prog 71 (C Try.f16 [1, 1, 1, 1]) _ _ _
      refine W_seq (by kernel_rfl) ?_
      -- R11
      refine W_reg (l := [⟨some 10, Op.assign (Operand.const (Value.int IntKind.i64 0)), 3, none⟩]) (by kernel_rfl) (by kernel_rfl) ?_
      refine TL_q rfl (QV_assign rfl) ?_
      refine TL_nil ?_
      refine W_seq (by kernel_rfl) ?_
      refine W_seq (by kernel_rfl) ?_
      -- R12
      refine W_reg (l := [⟨some 11, Op.assign (Operand.const (Value.int IntKind.i64 0)), 3, none⟩]) (by kernel_rfl) (by kernel_rfl) ?_
      refine TL_q rfl (QV_assign rfl) ?_
      refine TL_nil ?_
      refine W_block 2 (by kernel_rfl) ?_
      refine W_loop (fun (j : Nat) w4 => j ≤ ends.length ∧ w1 = w4) (fun j => [(0, .int .i64 (n : Int)), (2, .slice ae ends.length ce), (10, .int .i64 ((prevE ends j : Nat) : Int)), (11, .int .i64 (j : Int))]) (fun j => ends.length - j) 0 (by kernel_rfl) ?_ ?_ ?_
      · exact ⟨Nat.zero_le _, rfl⟩
      · exact ⟨rfl, rfl, rfl, rfl, trivial⟩
      rintro j w4 ⟨hj, rfl⟩
      refine W_seq (by kernel_rfl) ?_
      refine W_seq (by kernel_rfl) ?_
      -- R13
      refine W_reg (l := [⟨some 44, Op.move (Operand.tmp 11), 3, none⟩, ⟨some 45, Op.move (Operand.tmp 2), 27, none⟩, ⟨some 46, Op.call { callee := Callee.builtin Builtin.len, args := #[Operand.tmp 45], argTypes := #[27] }, 3, none⟩, ⟨some 47, Op.binOp BinOp.lss 3 (Operand.tmp 44) (Operand.tmp 46) 3, 4, none⟩]) (by kernel_rfl) (by kernel_rfl) ?_
      refine TL_q rfl (QV_move rfl) ?_
      refine TL_q rfl (QV_move rfl) ?_
      refine TL_q rfl (QV_len rfl el27) ?_
      refine TL_q rfl (QV_lss rfl rfl) ?_
      refine TL_nil ?_
      refine W_cond (c := Operand.tmp 47) (by kernel_rfl) rfl (fun hc47 => ?_) (fun hc47 => ?_)
      ·
        have hlt : j < ends.length := by have := of_decide_eq_true hc47; omega
        obtain ⟨b, o, rfl, hbB, hcel⟩ := hpe (by omega)
        have hinc := hP.inc j hlt
        refine W_skip (by kernel_rfl) ?_
        refine W_seq (by kernel_rfl) ?_
        refine W_block 3 (by kernel_rfl) ?_
        refine W_seq (by kernel_rfl) ?_
        refine W_seq (by kernel_rfl) ?_
        -- R15
        refine W_reg (l := [⟨some 50, Op.move (Operand.tmp 2), 27, none⟩, ⟨some 51, Op.move (Operand.tmp 11), 3, none⟩, ⟨some 52, Op.indexAddr 27 (Operand.tmp 50) (Operand.tmp 51), 0, none⟩, ⟨some 53, Op.load 3 (Operand.tmp 52), 3, none⟩, ⟨some 54, Op.move (Operand.tmp 10), 3, none⟩, ⟨some 55, Op.binOp BinOp.leq 3 (Operand.tmp 53) (Operand.tmp 54) 3, 4, none⟩, ⟨some 56, Op.move (Operand.tmp 55), 4, none⟩, ⟨some 57, Op.move (Operand.tmp 2), 27, some (6, false)⟩, ⟨some 58, Op.move (Operand.tmp 11), 3, some (6, false)⟩, ⟨some 59, Op.indexAddr 27 (Operand.tmp 57) (Operand.tmp 58), 0, some (6, false)⟩, ⟨some 60, Op.load 3 (Operand.tmp 59), 3, some (6, false)⟩, ⟨some 61, Op.move (Operand.tmp 0), 3, some (6, false)⟩, ⟨some 62, Op.binOp BinOp.gtr 3 (Operand.tmp 60) (Operand.tmp 61) 3, 4, some (6, false)⟩, ⟨some 63, Op.pick (Operand.tmp 56) (Operand.const (Value.bool true)) (Operand.tmp 62), 4, none⟩]) (by kernel_rfl) (by kernel_rfl) ?_
        refine TL_q rfl (QV_move rfl) ?_
        refine TL_q rfl (QV_move rfl) ?_
        refine TL_q rfl (QV_idxO rfl rfl el27 sz3 (hlt)) ?_
        refine TL_q rfl (QV_load rfl one3 (cel_fr (hcel j hlt) fr (fun h => h))) ?_
        refine TL_q rfl (QV_move rfl) ?_
        refine TL_q rfl (QV_leq rfl rfl) ?_
        refine TL_q rfl (QV_move rfl) ?_
        refine TL_cases (t := 56) rfl (fun hb56 => ?_) (fun hb56 => ?_)
        ·
          exact absurd (of_decide_eq_true hb56) (by omega)
        ·
          refine TL_gq rfl rfl rfl rfl (QV_move rfl) ?_
          refine TL_gq rfl rfl rfl rfl (QV_move rfl) ?_
          refine TL_gq rfl rfl rfl rfl (QV_idxO rfl rfl el27 sz3 (hlt)) ?_
          refine TL_gq rfl rfl rfl rfl (QV_load rfl one3 (cel_fr (hcel j hlt) fr (fun h => h))) ?_
          refine TL_gq rfl rfl rfl rfl (QV_move rfl) ?_
          refine TL_gq rfl rfl rfl rfl (QV_gtr rfl rfl) ?_
          refine TL_q rfl (QV_pickF rfl rfl) ?_
          refine TL_nil ?_
          refine W_cond (c := Operand.tmp 63) (by kernel_rfl) rfl (fun hc63 => ?_) (fun hc63 => ?_)
          ·
            exact absurd (of_decide_eq_true hc63) (by omega)
          ·
            refine W_skip (by kernel_rfl) ?_
            -- R17
            refine W_reg (l := [⟨some 64, Op.move (Operand.tmp 2), 27, none⟩, ⟨some 65, Op.move (Operand.tmp 11), 3, none⟩, ⟨some 66, Op.indexAddr 27 (Operand.tmp 64) (Operand.tmp 65), 0, none⟩, ⟨some 67, Op.load 3 (Operand.tmp 66), 3, none⟩, ⟨some 10, Op.assign (Operand.tmp 67), 3, none⟩]) (by kernel_rfl) (by kernel_rfl) ?_
            refine TL_q rfl (QV_move rfl) ?_
            refine TL_q rfl (QV_move rfl) ?_
            refine TL_q rfl (QV_idxO rfl rfl el27 sz3 (hlt)) ?_
            refine TL_q rfl (QV_load rfl one3 (cel_fr (hcel j hlt) fr (fun h => h))) ?_
            refine TL_q rfl (QV_assign rfl) ?_
            refine TL_nil ?_
            -- R14
            refine W_reg (l := [⟨some 48, Op.move (Operand.tmp 11), 3, none⟩, ⟨some 49, Op.binOp BinOp.add 3 (Operand.tmp 48) (Operand.const (Value.int IntKind.i64 1)) 3, 3, none⟩, ⟨some 11, Op.assign (Operand.tmp 49), 3, none⟩]) (by kernel_rfl) (by kernel_rfl) ?_
            refine TL_q rfl (QV_move rfl) ?_
            refine TL_q rfl (QV_add (r := ((j + 1 : Nat) : Int)) rfl rfl (by omega) (by omega) (by omega)) ?_
            refine TL_q rfl (QV_assign rfl) ?_
            refine TL_nil ?_
            exact ⟨j + 1, ⟨by omega, rfl⟩, ⟨rfl, rfl, sint (by rw [prevE_succ]), rfl, trivial⟩, by omega⟩
      ·
        have hge : j = ends.length := by have := of_decide_eq_false hc47; omega
        subst hge
        refine W_exit 2 (by kernel_rfl) ?_
        show T Try.prog 71 (C Try.f16 [1, 1, 1, 1, 1, 1]) _ _ _
        refine W_seq (by kernel_rfl) ?_
        -- R18
        refine W_reg (l := [⟨some 68, Op.move (Operand.tmp 10), 3, none⟩, ⟨some 69, Op.move (Operand.tmp 0), 3, none⟩, ⟨some 70, Op.binOp BinOp.eql 3 (Operand.tmp 68) (Operand.tmp 69) 3, 4, none⟩, ⟨some 6, Op.assign (Operand.tmp 70), 4, none⟩]) (by kernel_rfl) (by kernel_rfl) ?_
        refine TL_q rfl (QV_move rfl) ?_
        refine TL_q rfl (QV_move rfl) ?_
        refine TL_q rfl (QV_eql rfl rfl) ?_
        refine TL_q rfl (QV_assign rfl) ?_
        refine TL_nil ?_
        refine W_ret (by kernel_rfl) ?_
        exact ⟨_, rfl, by rw [hP.last]; simp, fr⟩

end Go.Proofs.Qxb6600121a
