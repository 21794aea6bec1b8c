/-
   Walks written by program (wip/gen).
-/
import Derived.Test.Qxb6600121aW37
import Derived.Test.Qxb6600121aW38
import Derived.Test.Qxb6600121aW20
namespace Go.Proofs.Qxb6600121a
open Go Go.Proofs
set_option linter.unusedVariables false
set_option linter.unusedSimpArgs false

structure WS where
  t : List Bool
  u : List Bool
  b : Nat
  c : Nat
set_option maxRecDepth 10000 in
theorem zzWellFounded (w : World) (B : Nat → Prop) (n : Nat) (rv : Value) (D : List Rl) (hv : RulesAt w.heap B rv (D.map Rl.rd)) (hok : Okay n D) (hl : D.length + tot (D.map Rl.rd) ≤ 1048576) (hn : n ≤ 65536) :
    CallsS Try.prog 25 #[.int .i64 (n : Int), rv] w (fun r w' => Fr (fun _ => False) w w' ∧ ∃ (t u : List Bool) (b c : Nat), r = .tuple #[.slice (some ⟨b, 0, none⟩) n n, .slice (some ⟨c, 0, none⟩) n n] ∧ Blk w'.heap b 4 (bools t) ∧ Blk w'.heap c 4 (bools u) ∧ t.length = n ∧ u.length = n ∧
      ∀ a, a < n → (t.getD a false = true ↔ WT D a) ∧ (u.getD a false = true ↔ WU D a)) := by
  refine W_fun [4, 5] Try.func25 rfl Try.ntmps25 Try.results25 (Nat.le_of_ble_eq_true rfl) ?_
  refine W_seq (by kernel_rfl) ?_
  -- R0
  refine W_reg (l := [⟨some 4, Op.assign (Operand.const (Value.slice none 0 0)), 37, none⟩, ⟨some 5, Op.assign (Operand.const (Value.slice none 0 0)), 37, none⟩]) (by kernel_rfl) (by kernel_rfl) ?_
  refine TL_q rfl (QV_assign rfl) ?_
  refine TL_q rfl (QV_assign rfl) ?_
  refine TL_nil ?_
  refine W_seq (by kernel_rfl) ?_
  -- R1
  refine W_reg (l := [⟨some 12, Op.move (Operand.tmp 0), 3, none⟩, ⟨some 13, Op.move (Operand.tmp 1), 22, none⟩, ⟨some 14, Op.call { callee := Callee.value (Operand.func 20), args := #[Operand.tmp 12, Operand.tmp 13], argTypes := #[3, 22] }, 35, none⟩, ⟨some 11, Op.move (Operand.tmp 14), 35, none⟩, ⟨some 15, Op.extract (Operand.tmp 11) 0, 34, none⟩, ⟨some 16, Op.extract (Operand.tmp 11) 1, 34, none⟩, ⟨some 17, Op.extract (Operand.tmp 11) 2, 34, none⟩, ⟨some 6, Op.assign (Operand.tmp 15), 34, none⟩, ⟨some 7, Op.assign (Operand.tmp 16), 34, none⟩, ⟨some 8, Op.assign (Operand.tmp 17), 34, none⟩]) (by kernel_rfl) (by kernel_rfl) ?_
  refine TL_q rfl (QV_move rfl) ?_
  refine TL_q rfl (QV_move rfl) ?_
  refine TL_e (EV_callD rfl rfl rfl call20 (zzIndex w B n _ D hv hok hl hn) fun r w1 hr => ?_)
  obtain ⟨hfr, v1, v2, v3, rfl, -, hut, -⟩ := hr
  obtain ⟨tu, etu, -⟩ := id hut
  subst etu
  refine TL_q rfl (QV_move rfl) ?_
  refine TL_q rfl (QV_extract rfl rfl) ?_
  refine TL_q rfl (QV_extract rfl rfl) ?_
  refine TL_q rfl (QV_extract rfl rfl) ?_
  refine TL_q rfl (QV_assign rfl) ?_
  refine TL_q rfl (QV_assign rfl) ?_
  refine TL_q rfl (QV_assign rfl) ?_
  refine TL_nil ?_
  refine W_seq (by kernel_rfl) ?_
  -- R2
  refine W_reg (l := [⟨some 18, Op.move (Operand.tmp 0), 3, none⟩, ⟨some 19, Op.makeSlice 37 (Operand.tmp 18) (Operand.tmp 18), 37, none⟩, ⟨some 4, Op.assign (Operand.tmp 19), 37, none⟩]) (by kernel_rfl) (by kernel_rfl) ?_
  refine TL_q rfl (QV_move rfl) ?_
  refine TL_e (EV_make1 rfl rfl rfl el37 in4 rfl (by omega) (by omega) (by omega) fun w2 k2 => ?_)
  have hb2 : Blk w2.heap w1.heap.size 4 (bools (List.replicate n false)) := by have := k2.blk; rw [bools_rep] at this; exact this
  have f2 : Fr (fun _ => False) w w2 := hfr.newb k2
  refine TL_q rfl (QV_assign rfl) ?_
  refine TL_nil ?_
  refine W_seq (by kernel_rfl) ?_
  -- R3
  refine W_reg (l := [⟨some 20, Op.move (Operand.tmp 0), 3, none⟩, ⟨some 21, Op.move (Operand.tmp 1), 22, none⟩, ⟨some 22, Op.move (Operand.tmp 7), 34, none⟩, ⟨some 23, Op.move (Operand.tmp 4), 37, none⟩, ⟨some 24, Op.call { callee := Callee.value (Operand.func 37), args := #[Operand.tmp 20, Operand.tmp 21, Operand.tmp 22, Operand.tmp 23], argTypes := #[3, 22, 34, 37] }, 37, none⟩, ⟨some 5, Op.assign (Operand.tmp 24), 37, none⟩]) (by kernel_rfl) (by kernel_rfl) ?_
  refine TL_q rfl (QV_move rfl) ?_
  refine TL_q rfl (QV_move rfl) ?_
  refine TL_q rfl (QV_move rfl) ?_
  refine TL_q rfl (QV_move rfl) ?_
  refine TL_e (EV_callD rfl rfl rfl call37 (zzLeast w2 B (fun b => w.heap.size ≤ b ∧ b < w1.heap.size) n _ (.slice (some ⟨tu, 0, none⟩) n n) D (hv.fr f2 (fun _ _ h => h)) hok hl hn (hut.fr k2.fr (fun _ _ h => h)) w1.heap.size (List.replicate n false) hb2 (by simp)) fun r3 w3 hr3 => ?_)
  obtain ⟨f3, u0, rfl, hu0l, hb3, hu0⟩ := hr3
  have hal0 : AltS D n 0 (List.replicate n false) u0 := alt0 hu0l hu0
  have hb2' := hb2.fr f3 (fun e => e)
  have fA := f2.trans f3
  have fB := k2.fr.trans f3
  refine TL_q rfl (QV_assign rfl) ?_
  refine TL_nil ?_
  refine W_seq (by kernel_rfl) ?_
  refine W_seq (by kernel_rfl) ?_
  -- R4
  refine W_reg (l := [⟨some 9, Op.assign (Operand.const (Value.int IntKind.i64 0)), 3, none⟩]) (by kernel_rfl) (by kernel_rfl) ?_
  refine TL_q rfl (QV_assign rfl) ?_
  refine TL_nil ?_
  refine W_block 0 (by kernel_rfl) ?_
  refine W_loop (ι := Nat × WS) (fun i w4 => AltS D n i.1 i.2.t i.2.u ∧ Fr (fun _ => False) w w4 ∧ Fr (fun _ => False) w1 w4 ∧ Blk w4.heap i.2.b 4 (bools i.2.t) ∧ Blk w4.heap i.2.c 4 (bools i.2.u)) (fun i => [(0, .int .i64 (n : Int)), (1, rv), (7, .slice (some ⟨tu, 0, none⟩) n n), (4, .slice (some ⟨i.2.b, 0, none⟩) n n), (5, .slice (some ⟨i.2.c, 0, none⟩) n n), (9, .int .i64 (i.1 : Int))]) (fun i => n + 2 - i.1) (0, ⟨List.replicate n false, u0, w1.heap.size, w2.heap.size⟩) (by kernel_rfl) ?_ ?_ ?_
  · exact ⟨hal0, fA, fB, hb2', hb3⟩
  · exact ⟨rfl, rfl, rfl, rfl, rfl, rfl, trivial⟩
  rintro ⟨s, t, u, b, c⟩ w4 ⟨hal, fA4, fB4, hbt, hbu⟩
  dsimp only at hal fA4 fB4 hbt hbu ⊢
  have hsb := hal.bound
  refine W_seq (by kernel_rfl) ?_
  refine W_seq (by kernel_rfl) ?_
  -- R5
  refine W_reg (l := [⟨some 25, Op.move (Operand.tmp 9), 3, none⟩, ⟨some 26, Op.move (Operand.tmp 0), 3, none⟩, ⟨some 27, Op.binOp BinOp.add 3 (Operand.tmp 26) (Operand.const (Value.int IntKind.i64 1)) 3, 3, none⟩, ⟨some 28, Op.binOp BinOp.leq 3 (Operand.tmp 25) (Operand.tmp 27) 3, 4, none⟩]) (by kernel_rfl) (by kernel_rfl) ?_
  refine TL_q rfl (QV_move rfl) ?_
  refine TL_q rfl (QV_move rfl) ?_
  refine TL_q rfl (QV_add (r := ((n + 1 : Nat) : Int)) rfl rfl (by omega) (by omega) (by omega)) ?_
  refine TL_q rfl (QV_leq rfl rfl) ?_
  refine TL_nil ?_
  refine W_cond (c := Operand.tmp 28) (by kernel_rfl) rfl (fun hc28 => ?_) (fun hc28 => ?_)
  ·
    refine W_skip (by kernel_rfl) ?_
    refine W_seq (by kernel_rfl) ?_
    refine W_block 1 (by kernel_rfl) ?_
    refine W_seq (by kernel_rfl) ?_
    -- R7
    refine W_reg (l := [⟨some 31, Op.move (Operand.tmp 0), 3, none⟩, ⟨some 32, Op.move (Operand.tmp 1), 22, none⟩, ⟨some 33, Op.move (Operand.tmp 7), 34, none⟩, ⟨some 34, Op.move (Operand.tmp 5), 37, none⟩, ⟨some 35, Op.call { callee := Callee.value (Operand.func 37), args := #[Operand.tmp 31, Operand.tmp 32, Operand.tmp 33, Operand.tmp 34], argTypes := #[3, 22, 34, 37] }, 37, none⟩, ⟨some 10, Op.assign (Operand.tmp 35), 37, none⟩]) (by kernel_rfl) (by kernel_rfl) ?_
    refine TL_q rfl (QV_move rfl) ?_
    refine TL_q rfl (QV_move rfl) ?_
    refine TL_q rfl (QV_move rfl) ?_
    refine TL_q rfl (QV_move rfl) ?_
    refine TL_e (EV_callD rfl rfl rfl call37 (zzLeast w4 B (fun b => w.heap.size ≤ b ∧ b < w1.heap.size) n _ (.slice (some ⟨tu, 0, none⟩) n n) D (hv.fr fA4 (fun _ _ h => h)) hok hl hn (hut.fr fB4 (fun _ _ h => h)) c u hbu hal.ul) fun r5 w5 hr5 => ?_)
    obtain ⟨f5, t2, rfl, ht2l, hb5, ht2⟩ := hr5
    have hbt5 := hbt.fr f5 (fun e => e)
    have hbu5 := hbu.fr f5 (fun e => e)
    have fA5 := fA4.trans f5
    have fB5 := fB4.trans f5
    refine TL_q rfl (QV_assign rfl) ?_
    refine TL_nil ?_
    refine W_seq (by kernel_rfl) ?_
    refine W_seq (by kernel_rfl) ?_
    -- R8
    refine W_reg (l := [⟨some 36, Op.move (Operand.tmp 10), 37, none⟩, ⟨some 37, Op.move (Operand.tmp 4), 37, none⟩, ⟨some 38, Op.call { callee := Callee.value (Operand.func 38), args := #[Operand.tmp 36, Operand.tmp 37], argTypes := #[37, 37] }, 4, none⟩]) (by kernel_rfl) (by kernel_rfl) ?_
    refine TL_q rfl (QV_move rfl) ?_
    refine TL_q rfl (QV_move rfl) ?_
    refine TL_e (EV_callD rfl rfl rfl call38 (sameBools w5 n w4.heap.size b t2 t hb5 hbt5 ht2l hal.tl hn) fun r6 w6 hr6 => ?_)
    obtain ⟨hw6, eq6, rfl, hsame⟩ := hr6
    rw [hw6]
    clear hw6
    refine TL_nil ?_
    refine W_cond (c := Operand.tmp 38) (by kernel_rfl) rfl (fun hc38 => ?_) (fun hc38 => ?_)
    ·
      have hst : t2 = t := hsame.1 hc38
      have hR : ∀ a, a < n → (t.getD a false = true ↔ WT D a) ∧ (u.getD a false = true ↔ WU D a) := fun a ha => hal.fin hok (fun x hx => by rw [← hst]; exact ht2 x hx) ha
      refine W_exit 0 (by kernel_rfl) ?_
      show T Try.prog 47 (C Try.f25 [1, 1, 1, 1, 1]) _ _ _
      refine W_seq (by kernel_rfl) ?_
      -- R11
      refine W_reg (l := [⟨some 45, Op.move (Operand.tmp 4), 37, none⟩, ⟨some 46, Op.move (Operand.tmp 5), 37, none⟩, ⟨some 4, Op.assign (Operand.tmp 45), 37, none⟩, ⟨some 5, Op.assign (Operand.tmp 46), 37, none⟩]) (by kernel_rfl) (by kernel_rfl) ?_
      refine TL_q rfl (QV_move rfl) ?_
      refine TL_q rfl (QV_move rfl) ?_
      refine TL_q rfl (QV_assign rfl) ?_
      refine TL_q rfl (QV_assign rfl) ?_
      refine TL_nil ?_
      refine W_ret (by kernel_rfl) ?_
      exact ⟨_, rfl, fA5, t, u, b, c, rfl, hbt5, hbu5, hal.tl, hal.ul, hR⟩
    ·
      have hst : t2 ≠ t := fun e => by rw [hsame.2 e] at hc38; cases hc38
      refine W_skip (by kernel_rfl) ?_
      refine W_seq (by kernel_rfl) ?_
      -- R9
      refine W_reg (l := [⟨some 39, Op.move (Operand.tmp 10), 37, none⟩, ⟨some 4, Op.assign (Operand.tmp 39), 37, none⟩]) (by kernel_rfl) (by kernel_rfl) ?_
      refine TL_q rfl (QV_move rfl) ?_
      refine TL_q rfl (QV_assign rfl) ?_
      refine TL_nil ?_
      -- R10
      refine W_reg (l := [⟨some 40, Op.move (Operand.tmp 0), 3, none⟩, ⟨some 41, Op.move (Operand.tmp 1), 22, none⟩, ⟨some 42, Op.move (Operand.tmp 7), 34, none⟩, ⟨some 43, Op.move (Operand.tmp 4), 37, none⟩, ⟨some 44, Op.call { callee := Callee.value (Operand.func 37), args := #[Operand.tmp 40, Operand.tmp 41, Operand.tmp 42, Operand.tmp 43], argTypes := #[3, 22, 34, 37] }, 37, none⟩, ⟨some 5, Op.assign (Operand.tmp 44), 37, none⟩]) (by kernel_rfl) (by kernel_rfl) ?_
      refine TL_q rfl (QV_move rfl) ?_
      refine TL_q rfl (QV_move rfl) ?_
      refine TL_q rfl (QV_move rfl) ?_
      refine TL_q rfl (QV_move rfl) ?_
      refine TL_e (EV_callD rfl rfl rfl call37 (zzLeast w5 B (fun b => w.heap.size ≤ b ∧ b < w1.heap.size) n _ (.slice (some ⟨tu, 0, none⟩) n n) D (hv.fr fA5 (fun _ _ h => h)) hok hl hn (hut.fr fB5 (fun _ _ h => h)) w4.heap.size t2 hb5 ht2l) fun r7 w7 hr7 => ?_)
      obtain ⟨f7, u2, rfl, hu2l, hb7, hu2⟩ := hr7
      have hal2 := hal.next hok ht2l ht2 hst hu2l hu2
      refine TL_q rfl (QV_assign rfl) ?_
      refine TL_nil ?_
      -- R6
      refine W_reg (l := [⟨some 29, Op.move (Operand.tmp 9), 3, none⟩, ⟨some 30, Op.binOp BinOp.add 3 (Operand.tmp 29) (Operand.const (Value.int IntKind.i64 1)) 3, 3, none⟩, ⟨some 9, Op.assign (Operand.tmp 30), 3, none⟩]) (by kernel_rfl) (by kernel_rfl) ?_
      refine TL_q rfl (QV_move rfl) ?_
      refine TL_q rfl (QV_add (r := ((s + 1 : Nat) : Int)) rfl rfl (by omega) (by omega) (by omega)) ?_
      refine TL_q rfl (QV_assign rfl) ?_
      refine TL_nil ?_
      exact ⟨(s + 1, ⟨t2, u2, w4.heap.size, w5.heap.size⟩), ⟨hal2, fA5.trans f7, fB5.trans f7, hb5.fr f7 (fun e => e), hb7⟩, ⟨rfl, rfl, rfl, rfl, rfl, rfl, trivial⟩, by show n + 2 - (s + 1) < n + 2 - s; omega⟩
  ·
    exact absurd (of_decide_eq_false hc28) (by omega)

end Go.Proofs.Qxb6600121a
