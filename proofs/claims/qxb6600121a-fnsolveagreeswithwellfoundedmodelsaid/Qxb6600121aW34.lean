/-
   Walks written by program (wip/gen).
-/
import Derived.Test.Qxb6600121aData
namespace Go.Proofs.Qxb6600121a
open Go Go.Proofs
set_option linter.unusedVariables false
set_option linter.unusedSimpArgs false

theorem copy_step (xs : List Int) (k : Nat) (h : k < xs.length) : (xs.take k ++ List.replicate (xs.length - k) 0).set k (xs.getD k 0) = xs.take (k + 1) ++ List.replicate (xs.length - (k + 1)) 0 := by
  apply List.ext_getElem
  · simp; omega
  · intro j h1 h2
    simp at h1 h2
    rw [List.getElem_set]
    split
    · subst_vars
      rw [List.getElem_append_left (by simp; omega), List.getElem_take]
      simp [h]
    · rename_i hne
      simp only [List.getElem_append, List.length_take, List.getElem_take, List.getElem_replicate]
      split <;> split <;> first | rfl | omega
theorem copy_len (xs : List Int) (k : Nat) (h : k ≤ xs.length) : (xs.take k ++ List.replicate (xs.length - k) (0 : Int)).length = xs.length := by simp; omega
set_option maxRecDepth 10000 in
theorem cloneInts (w : World) (B : Nat → Prop) (v : Value) (xs : List Int) (hv : IntsAt w.heap B v xs) (hl : xs.length ≤ 1048576) :
    CallsS Try.prog 34 #[v] w (fun r w' => Fr (fun _ => False) w w' ∧ IntsAt w'.heap (fun b => w.heap.size ≤ b ∧ b < w'.heap.size) r xs) := by
  obtain ⟨a, c, rfl, hc, hn, hp⟩ := hv
  cases a with
  | none =>
    have h0 := hn rfl
    refine W_fun [2] Try.func34 rfl Try.ntmps34 Try.results34 (Nat.le_of_ble_eq_true rfl) ?_
    refine W_seq (by kernel_rfl) ?_
    -- R0
    refine W_reg (l := [⟨some 2, Op.assign (Operand.const (Value.slice none 0 0)), 27, none⟩]) (by kernel_rfl) (by kernel_rfl) ?_
    refine TL_q rfl (QV_assign rfl) ?_
    refine TL_nil ?_
    refine W_seq (by kernel_rfl) ?_
    refine W_seq (by kernel_rfl) ?_
    -- R1
    refine W_reg (l := [⟨some 5, Op.move (Operand.tmp 0), 27, none⟩, ⟨some 6, Op.binOp BinOp.eql 27 (Operand.tmp 5) (Operand.const (Value.slice none 0 0)) 27, 4, none⟩]) (by kernel_rfl) (by kernel_rfl) ?_
    refine TL_q rfl (QV_move rfl) ?_
    refine TL_q rfl (QV_isNil rfl el27) ?_
    refine TL_nil ?_
    refine W_condT (c := Operand.tmp 6) (by kernel_rfl) rfl ?_
    refine W_seq (by kernel_rfl) ?_
    -- R2
    refine W_reg (l := [⟨some 2, Op.assign (Operand.const (Value.slice none 0 0)), 27, none⟩]) (by kernel_rfl) (by kernel_rfl) ?_
    refine TL_q rfl (QV_assign rfl) ?_
    refine TL_nil ?_
    refine W_ret (by kernel_rfl) ?_
    exact ⟨_, rfl, Fr.refl _ _, none, 0, by rw [h0], by omega, fun _ => h0, fun h => by omega⟩
  | some ad =>
    refine W_fun [2] Try.func34 rfl Try.ntmps34 Try.results34 (Nat.le_of_ble_eq_true rfl) ?_
    refine W_seq (by kernel_rfl) ?_
    -- R0
    refine W_reg (l := [⟨some 2, Op.assign (Operand.const (Value.slice none 0 0)), 27, none⟩]) (by kernel_rfl) (by kernel_rfl) ?_
    refine TL_q rfl (QV_assign rfl) ?_
    refine TL_nil ?_
    refine W_seq (by kernel_rfl) ?_
    refine W_seq (by kernel_rfl) ?_
    -- R1
    refine W_reg (l := [⟨some 5, Op.move (Operand.tmp 0), 27, none⟩, ⟨some 6, Op.binOp BinOp.eql 27 (Operand.tmp 5) (Operand.const (Value.slice none 0 0)) 27, 4, none⟩]) (by kernel_rfl) (by kernel_rfl) ?_
    refine TL_q rfl (QV_move rfl) ?_
    refine TL_q rfl (QV_isNil rfl el27) ?_
    refine TL_nil ?_
    refine W_condF (c := Operand.tmp 6) (by kernel_rfl) rfl ?_
    refine W_skip (by kernel_rfl) ?_
    refine W_seq (by kernel_rfl) ?_
    -- R3
    refine W_reg (l := [⟨some 7, Op.move (Operand.tmp 0), 27, none⟩, ⟨some 8, Op.call { callee := Callee.builtin Builtin.len, args := #[Operand.tmp 7], argTypes := #[27] }, 3, none⟩, ⟨some 9, Op.makeSlice 27 (Operand.tmp 8) (Operand.tmp 8), 27, none⟩, ⟨some 3, Op.assign (Operand.tmp 9), 27, none⟩]) (by kernel_rfl) (by kernel_rfl) ?_
    refine TL_q rfl (QV_move rfl) ?_
    refine TL_q rfl (QV_len rfl el27) ?_
    refine TL_e (EV_make1 rfl rfl rfl el27 in3 rfl (by omega) (by omega) (by omega) fun w2 hw2 => ?_)
    have hb0 : Blk w2.heap w.heap.size 3 (ints (xs.take 0 ++ List.replicate (xs.length - 0) 0)) := by simpa [ints] using hw2.blk
    refine TL_q rfl (QV_assign rfl) ?_
    refine TL_nil ?_
    refine W_seq (by kernel_rfl) ?_
    refine W_seq (by kernel_rfl) ?_
    -- R4
    refine W_reg (l := [⟨some 4, Op.assign (Operand.const (Value.int IntKind.i64 0)), 3, none⟩]) (by kernel_rfl) (by kernel_rfl) ?_
    refine TL_q rfl (QV_assign rfl) ?_
    refine TL_nil ?_
    refine W_block 0 (by kernel_rfl) ?_
    refine W_loop (fun (k : Nat) w1 => k ≤ xs.length ∧ Fr (fun _ => False) w w1 ∧ Blk w1.heap w.heap.size 3 (ints (xs.take k ++ List.replicate (xs.length - k) 0)) ∧ w1.heap.size = w.heap.size + 1) (fun k => [(0, .slice (some ad) xs.length c), (3, .slice (some ⟨w.heap.size, 0, none⟩) xs.length xs.length), (4, .int .i64 (k : Int))]) (fun k => xs.length - k) 0 (by kernel_rfl) ?_ ?_ ?_
    · exact ⟨Nat.zero_le _, hw2.fr, hb0, hw2.size⟩
    · exact ⟨rfl, rfl, rfl, trivial⟩
    rintro k w1 ⟨hk, hfr, hblk, hsz⟩
    have hlen := copy_len xs k hk
    refine W_seq (by kernel_rfl) ?_
    refine W_seq (by kernel_rfl) ?_
    -- R5
    refine W_reg (l := [⟨some 10, Op.move (Operand.tmp 4), 3, none⟩, ⟨some 11, Op.move (Operand.tmp 0), 27, none⟩, ⟨some 12, Op.call { callee := Callee.builtin Builtin.len, args := #[Operand.tmp 11], argTypes := #[27] }, 3, none⟩, ⟨some 13, Op.binOp BinOp.lss 3 (Operand.tmp 10) (Operand.tmp 12) 3, 4, none⟩]) (by kernel_rfl) (by kernel_rfl) ?_
    refine TL_q rfl (QV_move rfl) ?_
    refine TL_q rfl (QV_move rfl) ?_
    refine TL_q rfl (QV_len rfl el27) ?_
    refine TL_q rfl (QV_lss rfl rfl) ?_
    refine TL_nil ?_
    refine W_cond (c := Operand.tmp 13) (by kernel_rfl) rfl (fun hc13 => ?_) (fun hc13 => ?_)
    ·
      have hlt : k < xs.length := by have := of_decide_eq_true hc13; omega
      obtain ⟨b, o, hae, hbB, hcel⟩ := hp (by omega)
      cases hae
      refine W_skip (by kernel_rfl) ?_
      refine W_seq (by kernel_rfl) ?_
      refine W_block 1 (by kernel_rfl) ?_
      -- R7
      refine W_reg (l := [⟨some 16, Op.move (Operand.tmp 3), 27, none⟩, ⟨some 17, Op.move (Operand.tmp 4), 3, none⟩, ⟨some 18, Op.move (Operand.tmp 0), 27, none⟩, ⟨some 19, Op.move (Operand.tmp 4), 3, none⟩, ⟨some 20, Op.indexAddr 27 (Operand.tmp 18) (Operand.tmp 19), 0, none⟩, ⟨some 21, Op.load 3 (Operand.tmp 20), 3, none⟩, ⟨some 22, Op.indexAddr 27 (Operand.tmp 16) (Operand.tmp 17), 0, none⟩, ⟨none, Op.store 3 (Operand.tmp 22) (Operand.tmp 21), 0, none⟩]) (by kernel_rfl) (by kernel_rfl) ?_
      refine TL_q rfl (QV_move rfl) ?_
      refine TL_q rfl (QV_move rfl) ?_
      refine TL_q rfl (QV_move rfl) ?_
      refine TL_q rfl (QV_move rfl) ?_
      refine TL_q rfl (QV_idxO rfl rfl el27 sz3 (hlt)) ?_
      refine TL_q rfl (QV_load rfl one3 (cel_fr (hcel k hlt) hfr (fun h => h))) ?_
      refine TL_q rfl (QV_idx1 rfl rfl el27 sz3 (hlt)) ?_
      refine TL_e (EV_store rfl rfl rfl sz3 hblk (by rw [ints_len, hlen]; omega) fun w2 hu => ?_)
      have hb2 : Blk w2.heap w.heap.size 3 (ints (xs.take (k + 1) ++ List.replicate (xs.length - (k + 1)) 0)) := by
        have := hu.blk
        rw [ints_set, copy_step xs k hlt] at this
        exact this
      refine TL_nil ?_
      -- R6
      refine W_reg (l := [⟨some 14, Op.move (Operand.tmp 4), 3, none⟩, ⟨some 15, Op.binOp BinOp.add 3 (Operand.tmp 14) (Operand.const (Value.int IntKind.i64 1)) 3, 3, none⟩, ⟨some 4, Op.assign (Operand.tmp 15), 3, none⟩]) (by kernel_rfl) (by kernel_rfl) ?_
      refine TL_q rfl (QV_move rfl) ?_
      refine TL_q rfl (QV_add (r := ((k + 1 : Nat) : Int)) rfl rfl (by omega) (by omega) (by omega)) ?_
      refine TL_q rfl (QV_assign rfl) ?_
      refine TL_nil ?_
      exact ⟨k + 1, ⟨by omega, ⟨hu.fr.os.trans hfr.os, hu.fr.tape.trans hfr.tape, hu.fr.output.trans hfr.output, by rw [hu.size]; exact hfr.size, fun j hj _ => (hu.fr.block j (Nat.lt_of_lt_of_le hj hfr.size) (by omega)).trans (hfr.block j hj (fun h => h))⟩, hb2, by rw [hu.size, hsz]⟩, ⟨rfl, rfl, rfl, trivial⟩, by omega⟩
    ·
      have hge : k = xs.length := by have := of_decide_eq_false hc13; omega
      refine W_exit 0 (by kernel_rfl) ?_
      show T Try.prog 24 (C Try.f34 [1, 1, 1, 1]) _ _ _
      refine W_seq (by kernel_rfl) ?_
      -- R8
      refine W_reg (l := [⟨some 23, Op.move (Operand.tmp 3), 27, none⟩, ⟨some 2, Op.assign (Operand.tmp 23), 27, none⟩]) (by kernel_rfl) (by kernel_rfl) ?_
      refine TL_q rfl (QV_move rfl) ?_
      refine TL_q rfl (QV_assign rfl) ?_
      refine TL_nil ?_
      refine W_ret (by kernel_rfl) ?_
      subst hge
      have hb3 : Blk w1.heap w.heap.size 3 (ints xs) := by simpa using hblk
      refine ⟨_, rfl, hfr, some ⟨w.heap.size, 0, none⟩, xs.length, rfl, Nat.le_refl _, fun h => (by cases h), fun hpos => ⟨w.heap.size, 0, rfl, ⟨Nat.le_refl _, by omega⟩, fun j hj => ?_⟩⟩
      rw [Nat.zero_add]
      exact hb3.cI hj

end Go.Proofs.Qxb6600121a
