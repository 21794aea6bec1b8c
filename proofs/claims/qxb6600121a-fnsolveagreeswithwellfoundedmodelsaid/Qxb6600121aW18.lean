/-
   Walks written by program (wip/gen).
-/
import Derived.Test.Qxb6600121aW16
namespace Go.Proofs.Qxb6600121a
open Go Go.Proofs
set_option linter.unusedVariables false
set_option linter.unusedSimpArgs false

theorem Part.ends_mono {n : Nat} {atoms ends : List Nat} (h : Part n atoms ends) {j k : Nat} (hjk : j ≤ k) (hk : k ≤ ends.length) : prevE ends j ≤ prevE ends k := by
  induction k with
  | zero => have : j = 0 := by omega
            subst this; exact Nat.le_refl _
  | succ k ih =>
    by_cases hj : j = k + 1
    · subst hj; exact Nat.le_refl _
    · have h1 := ih (by omega) (by omega)
      have h2 := (h.inc k (by omega)).1
      rw [prevE_succ]
      omega
theorem Part.ends_le {n : Nat} {atoms ends : List Nat} (h : Part n atoms ends) {j : Nat} (hj : j ≤ ends.length) : prevE ends j ≤ n := by
  have h1 := h.ends_mono hj (Nat.le_refl _)
  rw [h.last] at h1
  exact h1
theorem Part.seg_uniq {n : Nat} {atoms ends : List Nat} (h : Part n atoms ends) {k k' i : Nat} (hk : k < ends.length) (hk' : k' < ends.length) (h1 : prevE ends k ≤ i) (h2 : i < ends.getD k 0) (h3 : prevE ends k' ≤ i) (h4 : i < ends.getD k' 0) : k = k' := by
  by_cases hlt : k < k'
  · have := h.ends_mono (j := k + 1) (k := k') hlt (by omega)
    rw [prevE_succ] at this
    omega
  · by_cases hgt : k' < k
    · have := h.ends_mono (j := k' + 1) (k := k) hgt (by omega)
      rw [prevE_succ] at this
      omega
    · omega
set_option maxRecDepth 10000 in
theorem compOf (w : World) (B : Nat → Prop) (n : Nat) (hn : n ≤ 65536) (av ev : Value) (atoms ends : List Nat) (hA : IntsAt w.heap B av (casts atoms)) (hE : IntsAt w.heap B ev (casts ends)) (hP : Part n atoms ends) (hel : ends.length ≤ 1048576) :
    CallsS Try.prog 18 #[.int .i64 (n : Int), av, ev] w (fun r w' => Fr (fun _ => False) w w' ∧ ∃ cs : List Nat, cs.length = n ∧ r = .slice (some ⟨w.heap.size, 0, none⟩) n n ∧ Blk w'.heap w.heap.size 3 (nats cs) ∧
      ∀ k i, k < ends.length → prevE ends k ≤ i → i < ends.getD k 0 → cs.getD (atoms.getD i 0) 0 = k) := by
  obtain ⟨aa, ca, rfl, hca, hpa⟩ := hA.nat
  obtain ⟨ae, ce, rfl, hce, hpe⟩ := hE.nat
  refine W_fun [6] Try.func18 rfl Try.ntmps18 Try.results18 (Nat.le_of_ble_eq_true rfl) ?_
  refine W_seq (by kernel_rfl) ?_
  -- R0
  refine W_reg (l := [⟨some 6, Op.assign (Operand.const (Value.slice none 0 0)), 27, none⟩]) (by kernel_rfl) (by kernel_rfl) ?_
  refine TL_q rfl (QV_assign rfl) ?_
  refine TL_nil ?_
  refine W_seq (by kernel_rfl) ?_
  -- R1
  refine W_reg (l := [⟨some 11, Op.move (Operand.tmp 0), 3, none⟩, ⟨some 12, Op.makeSlice 27 (Operand.tmp 11) (Operand.tmp 11), 27, none⟩, ⟨some 7, Op.assign (Operand.tmp 12), 27, none⟩]) (by kernel_rfl) (by kernel_rfl) ?_
  refine TL_q rfl (QV_move rfl) ?_
  refine TL_e (EV_make1 rfl rfl rfl el27 in3 rfl (by omega) (by omega) (by omega) fun w2 h2 => ?_)
  have hb2 : Blk w2.heap w.heap.size 3 (nats (List.replicate n 0)) := by have := h2.blk; rw [nats_rep] at this; exact this
  refine TL_q rfl (QV_assign rfl) ?_
  refine TL_nil ?_
  refine W_seq (by kernel_rfl) ?_
  -- R2
  refine W_reg (l := [⟨some 8, Op.assign (Operand.const (Value.int IntKind.i64 0)), 3, none⟩]) (by kernel_rfl) (by kernel_rfl) ?_
  refine TL_q rfl (QV_assign rfl) ?_
  refine TL_nil ?_
  refine W_seq (by kernel_rfl) ?_
  refine W_seq (by kernel_rfl) ?_
  -- R3
  refine W_reg (l := [⟨some 9, Op.assign (Operand.const (Value.int IntKind.i64 0)), 3, none⟩]) (by kernel_rfl) (by kernel_rfl) ?_
  refine TL_q rfl (QV_assign rfl) ?_
  refine TL_nil ?_
  refine W_block 0 (by kernel_rfl) ?_
  refine W_loop (ι := Nat × List Nat) (fun i w1 => i.1 ≤ ends.length ∧ Fr (fun _ => False) w w1 ∧ Blk w1.heap w.heap.size 3 (nats i.2) ∧ i.2.length = n ∧ ∀ k' i', k' < ends.length → prevE ends k' ≤ i' → i' < ends.getD k' 0 → i' < prevE ends i.1 → i.2.getD (atoms.getD i' 0) 0 = k') (fun i => [(1, .slice aa atoms.length ca), (2, .slice ae ends.length ce), (7, .slice (some ⟨w.heap.size, 0, none⟩) n n), (8, .int .i64 ((prevE ends i.1 : Nat) : Int)), (9, .int .i64 (i.1 : Int))]) (fun i => ends.length - i.1) (0, List.replicate n 0) (by kernel_rfl) ?_ ?_ ?_
  · exact ⟨Nat.zero_le _, h2.fr, hb2, by simp, fun k' i' _ _ _ h => absurd h (Nat.not_lt_zero _)⟩
  · exact ⟨rfl, rfl, rfl, rfl, rfl, trivial⟩
  rintro ⟨k, cs⟩ w1 ⟨hk, fr, hb, hbl, hq⟩
  dsimp only at hk hb hbl hq ⊢
  refine W_seq (by kernel_rfl) ?_
  refine W_seq (by kernel_rfl) ?_
  -- R4
  refine W_reg (l := [⟨some 13, Op.move (Operand.tmp 9), 3, none⟩, ⟨some 14, Op.move (Operand.tmp 2), 27, none⟩, ⟨some 15, Op.call { callee := Callee.builtin Builtin.len, args := #[Operand.tmp 14], argTypes := #[27] }, 3, none⟩, ⟨some 16, Op.binOp BinOp.lss 3 (Operand.tmp 13) (Operand.tmp 15) 3, 4, none⟩]) (by kernel_rfl) (by kernel_rfl) ?_
  refine TL_q rfl (QV_move rfl) ?_
  refine TL_q rfl (QV_move rfl) ?_
  refine TL_q rfl (QV_len rfl el27) ?_
  refine TL_q rfl (QV_lss rfl rfl) ?_
  refine TL_nil ?_
  refine W_cond (c := Operand.tmp 16) (by kernel_rfl) rfl (fun hc16 => ?_) (fun hc16 => ?_)
  ·
    have hlt : k < ends.length := by have := of_decide_eq_true hc16; omega
    obtain ⟨b, o, rfl, hbB, hcel⟩ := hpe (by omega)
    have hinc := hP.inc k hlt
    refine W_skip (by kernel_rfl) ?_
    refine W_seq (by kernel_rfl) ?_
    refine W_block 1 (by kernel_rfl) ?_
    refine W_seq (by kernel_rfl) ?_
    refine W_seq (by kernel_rfl) ?_
    -- R6
    refine W_reg (l := [⟨some 19, Op.move (Operand.tmp 8), 3, none⟩, ⟨some 10, Op.assign (Operand.tmp 19), 3, none⟩]) (by kernel_rfl) (by kernel_rfl) ?_
    refine TL_q rfl (QV_move rfl) ?_
    refine TL_q rfl (QV_assign rfl) ?_
    refine TL_nil ?_
    refine W_block 2 (by kernel_rfl) ?_
    refine W_loop (ι := Nat × List Nat) (fun i w2 => prevE ends k ≤ i.1 ∧ i.1 ≤ ends.getD k 0 ∧ Fr (fun _ => False) w w2 ∧ Blk w2.heap w.heap.size 3 (nats i.2) ∧ i.2.length = n ∧ ∀ k' i', k' < ends.length → prevE ends k' ≤ i' → i' < ends.getD k' 0 → i' < i.1 → i.2.getD (atoms.getD i' 0) 0 = k') (fun i => [(1, .slice aa atoms.length ca), (2, .slice (some ⟨b, o, none⟩) ends.length ce), (7, .slice (some ⟨w.heap.size, 0, none⟩) n n), (9, .int .i64 (k : Int)), (10, .int .i64 (i.1 : Int))]) (fun i => ends.getD k 0 - i.1) (prevE ends k, cs) (by kernel_rfl) ?_ ?_ ?_
    · exact ⟨Nat.le_refl _, by omega, fr, hb, hbl, hq⟩
    · exact ⟨rfl, rfl, rfl, rfl, rfl, trivial⟩
    rintro ⟨i, ds⟩ w2 ⟨hi1, hi2, fr2, hb2, hbl2, hq2⟩
    dsimp only at hi1 hi2 hb2 hbl2 hq2 ⊢
    refine W_seq (by kernel_rfl) ?_
    refine W_seq (by kernel_rfl) ?_
    -- R7
    refine W_reg (l := [⟨some 20, Op.move (Operand.tmp 10), 3, none⟩, ⟨some 21, Op.move (Operand.tmp 2), 27, none⟩, ⟨some 22, Op.move (Operand.tmp 9), 3, none⟩, ⟨some 23, Op.indexAddr 27 (Operand.tmp 21) (Operand.tmp 22), 0, none⟩, ⟨some 24, Op.load 3 (Operand.tmp 23), 3, none⟩, ⟨some 25, Op.binOp BinOp.lss 3 (Operand.tmp 20) (Operand.tmp 24) 3, 4, none⟩]) (by kernel_rfl) (by kernel_rfl) ?_
    refine TL_q rfl (QV_move rfl) ?_
    refine TL_q rfl (QV_move rfl) ?_
    refine TL_q rfl (QV_move rfl) ?_
    refine TL_q rfl (QV_idxO rfl rfl el27 sz3 (hlt)) ?_
    refine TL_q rfl (QV_load rfl one3 (cel_fr (hcel k hlt) fr2 (fun h => h))) ?_
    refine TL_q rfl (QV_lss rfl rfl) ?_
    refine TL_nil ?_
    refine W_cond (c := Operand.tmp 25) (by kernel_rfl) rfl (fun hc25 => ?_) (fun hc25 => ?_)
    ·
      have hil : i < ends.getD k 0 := by have := of_decide_eq_true hc25; omega
      have hil2 : i < atoms.length := by have := hP.len; omega
      obtain ⟨b2, o2, rfl, hbB2, hcel2⟩ := hpa (by omega)
      have hai := hP.lt i (by omega)
      refine W_skip (by kernel_rfl) ?_
      refine W_seq (by kernel_rfl) ?_
      refine W_block 3 (by kernel_rfl) ?_
      -- R9
      refine W_reg (l := [⟨some 28, Op.move (Operand.tmp 7), 27, none⟩, ⟨some 29, Op.move (Operand.tmp 1), 27, none⟩, ⟨some 30, Op.move (Operand.tmp 10), 3, none⟩, ⟨some 31, Op.indexAddr 27 (Operand.tmp 29) (Operand.tmp 30), 0, none⟩, ⟨some 32, Op.load 3 (Operand.tmp 31), 3, none⟩, ⟨some 33, Op.move (Operand.tmp 9), 3, none⟩, ⟨some 34, Op.indexAddr 27 (Operand.tmp 28) (Operand.tmp 32), 0, none⟩, ⟨none, Op.store 3 (Operand.tmp 34) (Operand.tmp 33), 0, none⟩]) (by kernel_rfl) (by kernel_rfl) ?_
      refine TL_q rfl (QV_move rfl) ?_
      refine TL_q rfl (QV_move rfl) ?_
      refine TL_q rfl (QV_move rfl) ?_
      refine TL_q rfl (QV_idxO rfl rfl el27 sz3 (hil2)) ?_
      refine TL_q rfl (QV_load rfl one3 (cel_fr (hcel2 i hil2) fr2 (fun h => h))) ?_
      refine TL_q rfl (QV_move rfl) ?_
      refine TL_q rfl (QV_idx1 rfl rfl el27 sz3 (hai)) ?_
      refine TL_e (EV_store rfl rfl rfl sz3 hb2 (by rw [nats_len]; omega) fun w3 u3 => ?_)
      have hb3 := u3.blk
      rw [nats_set] at hb3
      refine TL_nil ?_
      -- R8
      refine W_reg (l := [⟨some 26, Op.move (Operand.tmp 10), 3, none⟩, ⟨some 27, Op.binOp BinOp.add 3 (Operand.tmp 26) (Operand.const (Value.int IntKind.i64 1)) 3, 3, none⟩, ⟨some 10, Op.assign (Operand.tmp 27), 3, none⟩]) (by kernel_rfl) (by kernel_rfl) ?_
      refine TL_q rfl (QV_move rfl) ?_
      refine TL_q rfl (QV_add (r := ((i + 1 : Nat) : Int)) rfl rfl (by omega) (by omega) (by omega)) ?_
      refine TL_q rfl (QV_assign rfl) ?_
      refine TL_nil ?_
      refine ⟨(i + 1, ds.set (atoms.getD i 0) k), ⟨by omega, by omega, fr2.upd u3 (Nat.le_refl _), hb3, by simp [hbl2], fun k' i' h1 h2 h3 h4 => ?_⟩, ⟨rfl, rfl, rfl, rfl, rfl, trivial⟩, by show ends.getD k 0 - (i + 1) < ends.getD k 0 - i; omega⟩
      dsimp only at h4 ⊢
      by_cases hii : i' = i
      · subst hii
        rw [List.getD_eq_getElem?_getD, List.getElem?_set_self (by omega)]
        exact hP.seg_uniq hlt h1 hi1 hil h2 h3
      · rw [List.getD_eq_getElem?_getD, List.getElem?_set_ne (Ne.symm (hP.inj i' i (by omega) (by omega))), ← List.getD_eq_getElem?_getD]
        exact hq2 k' i' h1 h2 h3 (by omega)
    ·
      have hie : i = ends.getD k 0 := by have := of_decide_eq_false hc25; omega
      refine W_exit 2 (by kernel_rfl) ?_
      show T Try.prog 40 (C Try.f18 [1, 0, 0, 1, 0, 0, 1, 0, 1, 1, 1]) _ _ _
      -- R10
      refine W_reg (l := [⟨some 35, Op.move (Operand.tmp 2), 27, none⟩, ⟨some 36, Op.move (Operand.tmp 9), 3, none⟩, ⟨some 37, Op.indexAddr 27 (Operand.tmp 35) (Operand.tmp 36), 0, none⟩, ⟨some 38, Op.load 3 (Operand.tmp 37), 3, none⟩, ⟨some 8, Op.assign (Operand.tmp 38), 3, none⟩]) (by kernel_rfl) (by kernel_rfl) ?_
      refine TL_q rfl (QV_move rfl) ?_
      refine TL_q rfl (QV_move rfl) ?_
      refine TL_q rfl (QV_idxO rfl rfl el27 sz3 (hlt)) ?_
      refine TL_q rfl (QV_load rfl one3 (cel_fr (hcel k hlt) fr2 (fun h => h))) ?_
      refine TL_q rfl (QV_assign rfl) ?_
      refine TL_nil ?_
      -- R5
      refine W_reg (l := [⟨some 17, Op.move (Operand.tmp 9), 3, none⟩, ⟨some 18, Op.binOp BinOp.add 3 (Operand.tmp 17) (Operand.const (Value.int IntKind.i64 1)) 3, 3, none⟩, ⟨some 9, Op.assign (Operand.tmp 18), 3, none⟩]) (by kernel_rfl) (by kernel_rfl) ?_
      refine TL_q rfl (QV_move rfl) ?_
      refine TL_q rfl (QV_add (r := ((k + 1 : Nat) : Int)) rfl rfl (by omega) (by omega) (by omega)) ?_
      refine TL_q rfl (QV_assign rfl) ?_
      refine TL_nil ?_
      refine ⟨(k + 1, ds), ⟨by omega, fr2, hb2, hbl2, fun k' i' h1 h2 h3 h4 => hq2 k' i' h1 h2 h3 (by rw [hie]; exact h4)⟩, ⟨rfl, rfl, rfl, rfl, rfl, trivial⟩, by show ends.length - (k + 1) < ends.length - k; omega⟩
  ·
    have hge : k = ends.length := by have := of_decide_eq_false hc16; omega
    subst hge
    refine W_exit 0 (by kernel_rfl) ?_
    show T Try.prog 40 (C Try.f18 [1, 1, 1, 1]) _ _ _
    refine W_seq (by kernel_rfl) ?_
    -- R11
    refine W_reg (l := [⟨some 39, Op.move (Operand.tmp 7), 27, none⟩, ⟨some 6, Op.assign (Operand.tmp 39), 27, none⟩]) (by kernel_rfl) (by kernel_rfl) ?_
    refine TL_q rfl (QV_move rfl) ?_
    refine TL_q rfl (QV_assign rfl) ?_
    refine TL_nil ?_
    refine W_ret (by kernel_rfl) ?_
    exact ⟨_, rfl, fr, cs, hbl, rfl, hb, fun k' i' h1 h2 h3 => hq k' i' h1 h2 h3 (by have h5 := hP.ends_le (Nat.le_of_lt h1); rw [hP.last]; have := hP.inc k' h1; omega)⟩

end Go.Proofs.Qxb6600121a
