/-
   Walks written by program (wip/gen).
-/
import Derived.Test.Qxb6600121aFin
import Derived.Test.Qxb6600121aW23
import Derived.Test.Qxb6600121aW12
import Derived.Test.Qxb6600121aW13
import Derived.Test.Qxb6600121aW14
import Derived.Test.Qxb6600121aW17
import Derived.Test.Qxb6600121aSolP
namespace Go.Proofs.Qxb6600121a
open Go Go.Proofs
set_option linter.unusedVariables false
set_option linter.unusedSimpArgs false

set_option maxRecDepth 10000 in
set_option maxHeartbeats 1000000 in
theorem againLaw (w : World) (B : Nat → Prop) (n : Int) (v : Value) (rs : List RD) (hv : RulesAt w.heap B v rs) :
    CallsS Try.prog 7 #[.int .i64 n, v] w (fun r w' => r = .bool true ∧ Fr (fun _ => False) w w') := by
  refine W_fun [4] Try.func7 rfl Try.ntmps7 Try.results7 (Nat.le_of_ble_eq_true rfl) ?_
  refine W_seq (by kernel_rfl) ?_
  -- R0
  refine W_reg (l := [⟨some 4, Op.assign (Operand.const (Value.bool false)), 4, none⟩]) (by kernel_rfl) (by kernel_rfl) ?_
  refine TL_q rfl (QV_assign rfl) ?_
  refine TL_nil ?_
  refine W_seq (by kernel_rfl) ?_
  refine W_seq (by kernel_rfl) ?_
  -- R1
  refine W_reg (l := [⟨some 14, Op.move (Operand.tmp 0), 3, none⟩, ⟨some 15, Op.move (Operand.tmp 1), 22, none⟩, ⟨some 16, Op.call { callee := Callee.value (Operand.func 27), args := #[Operand.tmp 14, Operand.tmp 15], argTypes := #[3, 22] }, 4, none⟩, ⟨some 17, Op.unOp UnOp.not 4 (Operand.tmp 16), 4, none⟩]) (by kernel_rfl) (by kernel_rfl) ?_
  refine TL_q rfl (QV_move rfl) ?_
  refine TL_q rfl (QV_move rfl) ?_
  refine TL_e (EV_callD rfl rfl rfl call27 (bytes27 w B n v rs hv) fun r w1 hr => ?_)
  obtain ⟨hw1, b1, rfl, hb1⟩ := hr
  rw [hw1]
  clear hw1
  refine TL_q rfl (QV_not rfl) ?_
  refine TL_nil ?_
  refine W_cond (c := Operand.tmp 17) (by kernel_rfl) rfl (fun hc17 => ?_) (fun hc17 => ?_)
  ·
    refine W_seq (by kernel_rfl) ?_
    -- R2
    refine W_reg (l := [⟨some 4, Op.assign (Operand.const (Value.bool true)), 4, none⟩]) (by kernel_rfl) (by kernel_rfl) ?_
    refine TL_q rfl (QV_assign rfl) ?_
    refine TL_nil ?_
    refine W_ret (by kernel_rfl) ?_
    first
      | exact ⟨_, rfl, rfl, Fr.refl _ _⟩
      | exact ⟨_, rfl, rfl, f3⟩
      | exact ⟨_, rfl, rfl, (((f3.trans f4).trans f5).step (Fr.trans (f6.mono (Y := fun g => L.s < g) (fun _ _ e => e.1)) (f9.mono (fun _ _ e => e.1))) (by have := f3.size; have := f4.size; have := f5.size; intro i hi _ e; omega))⟩
  ·
    have hb1 := hb1 (by cases b1 <;> first | rfl | cases hc17)
    refine W_skip (by kernel_rfl) ?_
    refine W_seq (by kernel_rfl) ?_
    refine W_seq (by kernel_rfl) ?_
    -- R3
    refine W_reg (l := [⟨some 18, Op.move (Operand.tmp 0), 3, none⟩, ⟨some 19, Op.move (Operand.tmp 1), 22, none⟩, ⟨some 20, Op.call { callee := Callee.value (Operand.func 11), args := #[Operand.tmp 18, Operand.tmp 19], argTypes := #[3, 22] }, 4, none⟩, ⟨some 21, Op.unOp UnOp.not 4 (Operand.tmp 20), 4, none⟩]) (by kernel_rfl) (by kernel_rfl) ?_
    refine TL_q rfl (QV_move rfl) ?_
    refine TL_q rfl (QV_move rfl) ?_
    refine TL_e (EV_callD rfl rfl rfl call11 (sized w B n v rs hv) fun r w2 hr => ?_)
    obtain ⟨hw2, b2, rfl, hb2⟩ := hr
    rw [hw2]
    clear hw2
    refine TL_q rfl (QV_not rfl) ?_
    refine TL_nil ?_
    refine W_cond (c := Operand.tmp 21) (by kernel_rfl) rfl (fun hc21 => ?_) (fun hc21 => ?_)
    ·
      refine W_seq (by kernel_rfl) ?_
      -- R4
      refine W_reg (l := [⟨some 4, Op.assign (Operand.const (Value.bool true)), 4, none⟩]) (by kernel_rfl) (by kernel_rfl) ?_
      refine TL_q rfl (QV_assign rfl) ?_
      refine TL_nil ?_
      refine W_ret (by kernel_rfl) ?_
      first
        | exact ⟨_, rfl, rfl, Fr.refl _ _⟩
        | exact ⟨_, rfl, rfl, f3⟩
        | exact ⟨_, rfl, rfl, (((f3.trans f4).trans f5).step (Fr.trans (f6.mono (Y := fun g => L.s < g) (fun _ _ e => e.1)) (f9.mono (fun _ _ e => e.1))) (by have := f3.size; have := f4.size; have := f5.size; intro i hi _ e; omega))⟩
    ·
      have hb2 := hb2 (by cases b2 <;> first | rfl | cases hc21)
      obtain ⟨n', rfl⟩ := Int.eq_ofNat_of_zero_le hb2.1
      refine W_skip (by kernel_rfl) ?_
      refine W_seq (by kernel_rfl) ?_
      refine W_seq (by kernel_rfl) ?_
      -- R5
      refine W_reg (l := [⟨some 22, Op.move (Operand.tmp 0), 3, none⟩, ⟨some 23, Op.move (Operand.tmp 1), 22, none⟩, ⟨some 24, Op.call { callee := Callee.value (Operand.func 12), args := #[Operand.tmp 22, Operand.tmp 23], argTypes := #[3, 22] }, 4, none⟩, ⟨some 25, Op.unOp UnOp.not 4 (Operand.tmp 24), 4, none⟩]) (by kernel_rfl) (by kernel_rfl) ?_
      refine TL_q rfl (QV_move rfl) ?_
      refine TL_q rfl (QV_move rfl) ?_
      refine TL_e (EV_callD rfl rfl rfl call12 (inRange w B n' v rs hv hb1) fun r w3 hr => ?_)
      obtain ⟨f3, b3, rfl, hb3⟩ := hr
      refine TL_q rfl (QV_not rfl) ?_
      refine TL_nil ?_
      refine W_cond (c := Operand.tmp 25) (by kernel_rfl) rfl (fun hc25 => ?_) (fun hc25 => ?_)
      ·
        refine W_seq (by kernel_rfl) ?_
        -- R6
        refine W_reg (l := [⟨some 4, Op.assign (Operand.const (Value.bool true)), 4, none⟩]) (by kernel_rfl) (by kernel_rfl) ?_
        refine TL_q rfl (QV_assign rfl) ?_
        refine TL_nil ?_
        refine W_ret (by kernel_rfl) ?_
        first
          | exact ⟨_, rfl, rfl, Fr.refl _ _⟩
          | exact ⟨_, rfl, rfl, f3⟩
          | exact ⟨_, rfl, rfl, (((f3.trans f4).trans f5).step (Fr.trans (f6.mono (Y := fun g => L.s < g) (fun _ _ e => e.1)) (f9.mono (fun _ _ e => e.1))) (by have := f3.size; have := f4.size; have := f5.size; intro i hi _ e; omega))⟩
      ·
        have hb3 := hb3 (by cases b3 <;> first | rfl | cases hc25)
        obtain ⟨D, rfl, hok⟩ := plain_of hb3
        rw [List.length_map] at hb1
        refine W_skip (by kernel_rfl) ?_
        refine W_seq (by kernel_rfl) ?_
        -- R7
        refine W_reg (l := [⟨some 26, Op.move (Operand.tmp 1), 22, none⟩, ⟨some 27, Op.call { callee := Callee.value (Operand.func 13), args := #[Operand.tmp 26], argTypes := #[22] }, 22, none⟩, ⟨some 1, Op.assign (Operand.tmp 27), 22, none⟩]) (by kernel_rfl) (by kernel_rfl) ?_
        refine TL_q rfl (QV_move rfl) ?_
        refine TL_e (EV_callD rfl rfl rfl call13 (cloneRules w3 B v _ (hv.fr f3 (fun _ _ h => h)) (by rw [List.length_map]; exact hb1)) fun r w4 hr => ?_)
        obtain ⟨f4, hcl⟩ := hr
        refine TL_q rfl (QV_assign rfl) ?_
        refine TL_nil ?_
        refine W_seq (by kernel_rfl) ?_
        -- R8
        refine W_reg (l := [⟨some 28, Op.move (Operand.tmp 0), 3, none⟩, ⟨some 29, Op.move (Operand.tmp 1), 22, none⟩, ⟨some 30, Op.call { callee := Callee.value (Operand.func 14), args := #[Operand.tmp 28, Operand.tmp 29], argTypes := #[3, 22] }, 25, none⟩, ⟨some 5, Op.assign (Operand.tmp 30), 25, none⟩]) (by kernel_rfl) (by kernel_rfl) ?_
        refine TL_q rfl (QV_move rfl) ?_
        refine TL_q rfl (QV_move rfl) ?_
        refine TL_e (EV_callD rfl rfl rfl call14 (newSolver w4 _ (fun b hb => hb.2) n' r D hcl hok hb1 (by omega)) fun r2 w5 hr => ?_)
        obtain ⟨L, rfl, f5, hL1, hL2, hsol⟩ := hr
        refine TL_q rfl (QV_assign rfl) ?_
        refine TL_nil ?_
        refine W_seq (by kernel_rfl) ?_
        -- R9
        refine W_reg (l := [⟨some 32, Op.move (Operand.tmp 5), 25, none⟩, ⟨some 33, Op.move (Operand.tmp 0), 3, none⟩, ⟨some 34, Op.call { callee := Callee.value (Operand.func 24), args := #[Operand.tmp 32, Operand.tmp 33], argTypes := #[25, 3] }, 40, none⟩, ⟨some 31, Op.move (Operand.tmp 34), 40, none⟩, ⟨some 35, Op.extract (Operand.tmp 31) 0, 27, none⟩, ⟨some 36, Op.extract (Operand.tmp 31) 1, 27, none⟩, ⟨some 37, Op.extract (Operand.tmp 31) 2, 4, none⟩, ⟨some 6, Op.assign (Operand.tmp 35), 27, none⟩, ⟨some 7, Op.assign (Operand.tmp 36), 27, none⟩, ⟨some 8, Op.assign (Operand.tmp 37), 4, none⟩]) (by kernel_rfl) (by kernel_rfl) ?_
        refine TL_q rfl (QV_move rfl) ?_
        refine TL_q rfl (QV_move rfl) ?_
        refine TL_e (EV_callD rfl rfl rfl call24 (solveAll w5 L n' D _ (fun _ => False) nilS nilS (smf_start hsol) hok hb1 (by omega) _ (slvOf (tuTrue D n') hok hb1 (by omega))) fun r3 w6 hr => ?_)
        obtain ⟨av, ev, rfl, atoms, ends, hfin, S6, lv6, qv6, hrk, f6, Pr, -, hIA, hIE, h6⟩ := hr
        have hpart := hfin.part
        have hlen := hpart.len
        have hne := hfin.ne
        obtain ⟨aa, ca, rfl, hca, hpa⟩ := hIA.nat
        obtain ⟨ae, ce, rfl, hce, hpe⟩ := hIE.nat
        have hlt6 := h6.lt
        refine TL_q rfl (QV_move rfl) ?_
        refine TL_q rfl (QV_extract rfl rfl) ?_
        refine TL_q rfl (QV_extract rfl rfl) ?_
        refine TL_q rfl (QV_extract rfl rfl) ?_
        refine TL_q rfl (QV_assign rfl) ?_
        refine TL_q rfl (QV_assign rfl) ?_
        refine TL_q rfl (QV_assign rfl) ?_
        refine TL_nil ?_
        refine W_seq (by kernel_rfl) ?_
        refine W_seq (by kernel_rfl) ?_
        -- R10
        refine W_reg (l := [⟨some 38, Op.move (Operand.tmp 8), 4, none⟩, ⟨some 39, Op.unOp UnOp.not 4 (Operand.tmp 38), 4, none⟩]) (by kernel_rfl) (by kernel_rfl) ?_
        refine TL_q rfl (QV_move rfl) ?_
        refine TL_q rfl (QV_not rfl) ?_
        refine TL_nil ?_
        refine W_cond (c := Operand.tmp 39) (by kernel_rfl) rfl (fun hc39 => ?_) (fun hc39 => ?_)
        ·
          cases hc39
        ·
          refine W_skip (by kernel_rfl) ?_
          refine W_seq (by kernel_rfl) ?_
          -- R12
          refine W_reg (l := [⟨some 40, Op.move (Operand.tmp 0), 3, none⟩, ⟨some 41, Op.makeSlice 47 (Operand.tmp 40) (Operand.tmp 40), 47, none⟩, ⟨some 9, Op.assign (Operand.tmp 41), 47, none⟩]) (by kernel_rfl) (by kernel_rfl) ?_
          refine TL_q rfl (QV_move rfl) ?_
          refine TL_e (EV_make1 rfl rfl rfl el47 in45 rfl (by omega) (by omega) (by omega) fun w7 k7 => ?_)
          have h7 := h6.widen k7
          have hb7 : Blk w7.heap w6.heap.size 45 (i8s (List.replicate n' 0)) := by have := k7.blk; rw [i8s_rep] at this; exact this
          have hnP : ¬ Pr w6.heap.size := fun e => by have := h6.p _ e; omega
          have hfx : FX L Pr w6.heap.size := ⟨by omega, by omega, hnP⟩
          have f7 : Fr (FX L Pr) w6 w7 := k7.fr.mono (fun _ _ h => h.elim)
          refine TL_q rfl (QV_assign rfl) ?_
          refine TL_nil ?_
          refine W_seq (by kernel_rfl) ?_
          refine W_seq (by kernel_rfl) ?_
          -- R13
          refine W_reg (l := [⟨some 10, Op.assign (Operand.const (Value.int IntKind.i64 0)), 3, none⟩]) (by kernel_rfl) (by kernel_rfl) ?_
          refine TL_q rfl (QV_assign rfl) ?_
          refine TL_nil ?_
          refine W_block 0 (by kernel_rfl) ?_
          refine W_loop (ι := Nat × List Int) (fun i w8 => i.1 ≤ n' ∧ i.2.length = n' ∧ (∀ x, x < i.1 → i.2.getD x 0 = S6.val.getD x 0) ∧ SMF w8 w8 L n' D S6 (fun g => Pr g ∨ g = w6.heap.size) lv6 qv6 ∧ Fr (FX L Pr) w6 w8 ∧ Blk w8.heap w6.heap.size 45 (i8s i.2)) (fun i => [(0, .int .i64 (n' : Int)), (5, .pointer (some ⟨L.s + 9, 0, none⟩)), (6, .slice aa atoms.length ca), (7, .slice ae ends.length ce), (9, .slice (some ⟨w6.heap.size, 0, none⟩) n' n'), (10, .int .i64 (i.1 : Int))]) (fun i => n' - i.1) (0, List.replicate n' 0) (by kernel_rfl) ?_ ?_ ?_
          · exact ⟨Nat.zero_le _, by simp, fun x hx => absurd hx (Nat.not_lt_zero _), h7, f7, hb7⟩
          · exact ⟨rfl, rfl, rfl, rfl, rfl, rfl, trivial⟩
          rintro ⟨i, bs⟩ w8 ⟨hi, hbl, hbs, h8, f8, hb8⟩
          dsimp only at hi hbl hbs h8 f8 hb8 ⊢
          refine W_seq (by kernel_rfl) ?_
          refine W_seq (by kernel_rfl) ?_
          -- R14
          refine W_reg (l := [⟨some 42, Op.move (Operand.tmp 10), 3, none⟩, ⟨some 43, Op.move (Operand.tmp 0), 3, none⟩, ⟨some 44, Op.binOp BinOp.lss 3 (Operand.tmp 42) (Operand.tmp 43) 3, 4, none⟩]) (by kernel_rfl) (by kernel_rfl) ?_
          refine TL_q rfl (QV_move rfl) ?_
          refine TL_q rfl (QV_move rfl) ?_
          refine TL_q rfl (QV_lss rfl rfl) ?_
          refine TL_nil ?_
          refine W_cond (c := Operand.tmp 44) (by kernel_rfl) rfl (fun hc44 => ?_) (fun hc44 => ?_)
          ·
            have hlt : i < n' := by have := of_decide_eq_true hc44; omega
            refine W_skip (by kernel_rfl) ?_
            refine W_seq (by kernel_rfl) ?_
            refine W_block 1 (by kernel_rfl) ?_
            -- R16
            refine W_reg (l := [⟨some 47, Op.move (Operand.tmp 9), 47, none⟩, ⟨some 48, Op.move (Operand.tmp 10), 3, none⟩, ⟨some 49, Op.move (Operand.tmp 5), 25, none⟩, ⟨some 50, Op.move (Operand.tmp 10), 3, none⟩, ⟨some 51, Op.call { callee := Callee.value (Operand.func 26), args := #[Operand.tmp 49, Operand.tmp 50], argTypes := #[25, 3] }, 45, none⟩, ⟨some 52, Op.indexAddr 47 (Operand.tmp 47) (Operand.tmp 48), 0, none⟩, ⟨none, Op.store 45 (Operand.tmp 52) (Operand.tmp 51), 0, none⟩]) (by kernel_rfl) (by kernel_rfl) ?_
            refine TL_q rfl (QV_move rfl) ?_
            refine TL_q rfl (QV_move rfl) ?_
            refine TL_q rfl (QV_move rfl) ?_
            refine TL_q rfl (QV_move rfl) ?_
            refine TL_e (EV_callD rfl rfl rfl call26 (truthOf w8 L n' D S6 _ lv6 qv6 h8 i hlt) fun r9 w9 hr9 => ?_)
            obtain ⟨hw9, rfl⟩ := hr9
            rw [hw9]
            clear hw9
            refine TL_q rfl (QV_idx1 rfl rfl el47 sz45 (hlt)) ?_
            refine TL_e (EV_store rfl rfl rfl sz45 hb8 (by rw [i8s_len, hbl]; exact hlt) fun w10 u10 => ?_)
            have h10 := h8.beside u10 (.inr rfl) hlt6
            have hb10 := u10.blk
            rw [i8s_set] at hb10
            have f10 : Fr (FX L Pr) w6 w10 := f8.trans (u10.fr.mono (fun k _ e => by rw [e]; exact hfx))
            refine TL_nil ?_
            -- R15
            refine W_reg (l := [⟨some 45, Op.move (Operand.tmp 10), 3, none⟩, ⟨some 46, Op.binOp BinOp.add 3 (Operand.tmp 45) (Operand.const (Value.int IntKind.i64 1)) 3, 3, none⟩, ⟨some 10, Op.assign (Operand.tmp 46), 3, none⟩]) (by kernel_rfl) (by kernel_rfl) ?_
            refine TL_q rfl (QV_move rfl) ?_
            refine TL_q rfl (QV_add (r := ((i + 1 : Nat) : Int)) rfl rfl (by omega) (by omega) (by omega)) ?_
            refine TL_q rfl (QV_assign rfl) ?_
            refine TL_nil ?_
            refine ⟨(i + 1, bs.set i (S6.val.getD i 0)), ⟨by omega, by simp [hbl], fun x hx => ?_, h10, f10, hb10⟩, ⟨rfl, rfl, rfl, rfl, rfl, rfl, trivial⟩, by show n' - (i + 1) < n' - i; omega⟩
            dsimp only at hx ⊢
            by_cases hxi : i = x
            · subst hxi; exact getD_set_eq _ _ _ _ (by omega)
            · rw [getD_set_ne' _ _ _ _ _ hxi]; exact hbs x (by omega)
          ·
            have hie : i = n' := by have := of_decide_eq_false hc44; omega
            subst hie
            refine W_exit 0 (by kernel_rfl) ?_
            show T Try.prog 86 (C Try.f7 [1, 1, 1, 1, 1, 1, 1, 1, 1, 1]) _ _ _
            refine W_seq (by kernel_rfl) ?_
            -- R17
            refine W_reg (l := [⟨some 11, Op.assign (Operand.const (Value.int IntKind.i64 0)), 3, none⟩]) (by kernel_rfl) (by kernel_rfl) ?_
            refine TL_q rfl (QV_assign rfl) ?_
            refine TL_nil ?_
            refine W_seq (by kernel_rfl) ?_
            refine W_seq (by kernel_rfl) ?_
            -- R18
            refine W_reg (l := [⟨some 12, Op.assign (Operand.const (Value.int IntKind.i64 0)), 3, none⟩]) (by kernel_rfl) (by kernel_rfl) ?_
            refine TL_q rfl (QV_assign rfl) ?_
            refine TL_nil ?_
            refine W_block 2 (by kernel_rfl) ?_
            refine W_loop (ι := Nat × FS) (fun j w9 => j.1 ≤ ends.length ∧ RKx D i (fun _ => True) (fun _ => False) atoms ends ends.length (ends.length + j.1) j.2.S ∧ j.2.S.val = S6.val ∧ SMF w9 w9 L i D j.2.S (fun g => Pr g ∨ g = w6.heap.size) j.2.lv j.2.qv ∧ Fr (FX L Pr) w6 w9 ∧ Blk w9.heap w6.heap.size 45 (i8s bs)) (fun j => [(0, .int .i64 (i : Int)), (5, .pointer (some ⟨L.s + 9, 0, none⟩)), (6, .slice aa atoms.length ca), (7, .slice ae ends.length ce), (9, .slice (some ⟨w6.heap.size, 0, none⟩) i i), (11, .int .i64 ((prevE ends j.1 : Nat) : Int)), (12, .int .i64 (j.1 : Int))]) (fun j => ends.length - j.1) (0, ⟨S6, lv6, qv6⟩) (by kernel_rfl) ?_ ?_ ?_
            · exact ⟨Nat.zero_le _, hrk.1, rfl, h8, f8, hb8⟩
            · exact ⟨rfl, rfl, rfl, rfl, rfl, rfl, rfl, trivial⟩
            rintro ⟨k, S9, lv9, qv9⟩ w9 ⟨hk, hrk9, hv9, h9, f9, hb9⟩
            dsimp only at hk hrk9 hv9 h9 f9 hb9 ⊢
            refine W_seq (by kernel_rfl) ?_
            refine W_seq (by kernel_rfl) ?_
            -- R19
            refine W_reg (l := [⟨some 53, Op.move (Operand.tmp 12), 3, none⟩, ⟨some 54, Op.move (Operand.tmp 7), 27, none⟩, ⟨some 55, Op.call { callee := Callee.builtin Builtin.len, args := #[Operand.tmp 54], argTypes := #[27] }, 3, none⟩, ⟨some 56, Op.binOp BinOp.lss 3 (Operand.tmp 53) (Operand.tmp 55) 3, 4, none⟩]) (by kernel_rfl) (by kernel_rfl) ?_
            refine TL_q rfl (QV_move rfl) ?_
            refine TL_q rfl (QV_move rfl) ?_
            refine TL_q rfl (QV_len rfl el27) ?_
            refine TL_q rfl (QV_lss rfl rfl) ?_
            refine TL_nil ?_
            refine W_cond (c := Operand.tmp 56) (by kernel_rfl) rfl (fun hc56 => ?_) (fun hc56 => ?_)
            ·
              have hlt : k < ends.length := by have := of_decide_eq_true hc56; omega
              have hinc := hpart.inc k hlt
              have hmono := hpart.ends_le (Nat.le_of_lt hlt)
              obtain ⟨b, o, rfl, hbB, hcel⟩ := hpe (by omega)
              obtain ⟨b3, o3, rfl, hbB3, hcel3⟩ := hpa (by omega)
              have hslice := sg_ints (P := fun g => Pr g ∨ g = w6.heap.size) hpart hlt hca (.inl hbB3) (fun j hj => cel_fr (hcel3 j hj) f9 (fun e => e.2.2 hbB3))
              have hsl := sg_len hpart hlt
              have hsA : ∀ x ∈ sg atoms ends k, x < i := fun x hx => hpart.mem_lt (List.mem_of_mem_take (List.mem_of_mem_drop hx))
              refine W_skip (by kernel_rfl) ?_
              refine W_seq (by kernel_rfl) ?_
              refine W_block 3 (by kernel_rfl) ?_
              refine W_seq (by kernel_rfl) ?_
              -- R21
              refine W_reg (l := [⟨some 59, Op.move (Operand.tmp 5), 25, none⟩, ⟨some 60, Op.move (Operand.tmp 12), 3, none⟩, ⟨some 61, Op.move (Operand.tmp 6), 27, none⟩, ⟨some 62, Op.move (Operand.tmp 11), 3, none⟩, ⟨some 63, Op.move (Operand.tmp 7), 27, none⟩, ⟨some 64, Op.move (Operand.tmp 12), 3, none⟩, ⟨some 65, Op.indexAddr 27 (Operand.tmp 63) (Operand.tmp 64), 0, none⟩, ⟨some 66, Op.load 3 (Operand.tmp 65), 3, none⟩, ⟨some 67, Op.slice 27 (Operand.tmp 61) (some (Operand.tmp 62)) (some (Operand.tmp 66)) none, 27, none⟩, ⟨some 68, Op.call { callee := Callee.value (Operand.func 28), args := #[Operand.tmp 59, Operand.tmp 60, Operand.tmp 67], argTypes := #[25, 3, 27] }, 0, none⟩]) (by kernel_rfl) (by kernel_rfl) ?_
              refine TL_q rfl (QV_move rfl) ?_
              refine TL_q rfl (QV_move rfl) ?_
              refine TL_q rfl (QV_move rfl) ?_
              refine TL_q rfl (QV_move rfl) ?_
              refine TL_q rfl (QV_move rfl) ?_
              refine TL_q rfl (QV_move rfl) ?_
              refine TL_q rfl (QV_idxO rfl rfl el27 sz3 (hlt)) ?_
              refine TL_q rfl (QV_load rfl one3 (cel_fr (hcel k hlt) f9 (fun e => e.2.2 hbB))) ?_
              refine TL_q rfl (QV_slice2 rfl rfl rfl el27 sz3 (by omega) (by omega)) ?_
              refine TL_e (EV_callD rfl rfl rfl call28 (settle28 w9 L i D S9 _ lv9 qv9 h9 hok hb1 (by omega) k _ hsA (by omega) (by omega) _ hslice (by have h11 := und_le S9.val; rw [hrk9.len.nval] at h11; unfold muq; rw [hrk9.queue]; simp only [List.length_nil]; omega) _ (stl2 (tuTrue D i) hok hb1 (by omega) hpart hrk9 (by omega) hlt)) fun r10 w10 hr10 => ?_)
              obtain ⟨rfl, S10, lv10, qv10, hR, h10⟩ := hr10
              have f10 : Fr (FX L Pr) w6 w10 := f9.trans (h10.f.mono (fun g _ e => ⟨e.1, e.2.1, fun e2 => e.2.2 (.inl e2)⟩))
              have hb10 := hb9.fr h10.f (fun e => e.2.2 (.inr rfl))
              refine TL_nil ?_
              -- R22
              refine W_reg (l := [⟨some 69, Op.move (Operand.tmp 7), 27, none⟩, ⟨some 70, Op.move (Operand.tmp 12), 3, none⟩, ⟨some 71, Op.indexAddr 27 (Operand.tmp 69) (Operand.tmp 70), 0, none⟩, ⟨some 72, Op.load 3 (Operand.tmp 71), 3, none⟩, ⟨some 11, Op.assign (Operand.tmp 72), 3, none⟩]) (by kernel_rfl) (by kernel_rfl) ?_
              refine TL_q rfl (QV_move rfl) ?_
              refine TL_q rfl (QV_move rfl) ?_
              refine TL_q rfl (QV_idxO rfl rfl el27 sz3 (hlt)) ?_
              refine TL_q rfl (QV_load rfl one3 (cel_fr (hcel k hlt) f10 (fun e => e.2.2 hbB))) ?_
              refine TL_q rfl (QV_assign rfl) ?_
              refine TL_nil ?_
              -- R20
              refine W_reg (l := [⟨some 57, Op.move (Operand.tmp 12), 3, none⟩, ⟨some 58, Op.binOp BinOp.add 3 (Operand.tmp 57) (Operand.const (Value.int IntKind.i64 1)) 3, 3, none⟩, ⟨some 12, Op.assign (Operand.tmp 58), 3, none⟩]) (by kernel_rfl) (by kernel_rfl) ?_
              refine TL_q rfl (QV_move rfl) ?_
              refine TL_q rfl (QV_add (r := ((k + 1 : Nat) : Int)) rfl rfl (by omega) (by omega) (by omega)) ?_
              refine TL_q rfl (QV_assign rfl) ?_
              refine TL_nil ?_
              exact ⟨(k + 1, ⟨S10, lv10, qv10⟩), ⟨by omega, hR.1, hR.2.trans hv9, h10.self, f10, hb10⟩, ⟨rfl, rfl, rfl, rfl, rfl, sint (by rw [prevE_succ]), rfl, trivial⟩, by show ends.length - (k + 1) < ends.length - k; omega⟩
            ·
              have hke : k = ends.length := by have := of_decide_eq_false hc56; omega
              refine W_exit 2 (by kernel_rfl) ?_
              show T Try.prog 86 (C Try.f7 [1, 1, 1, 1, 1, 1, 1, 1, 1, 1, 1, 1]) _ _ _
              refine W_seq (by kernel_rfl) ?_
              refine W_seq (by kernel_rfl) ?_
              -- R23
              refine W_reg (l := [⟨some 13, Op.assign (Operand.const (Value.int IntKind.i64 0)), 3, none⟩]) (by kernel_rfl) (by kernel_rfl) ?_
              refine TL_q rfl (QV_assign rfl) ?_
              refine TL_nil ?_
              refine W_block 4 (by kernel_rfl) ?_
              refine W_loop (fun (a : Nat) w11 => a ≤ i ∧ w9 = w11) (fun a => [(0, .int .i64 (i : Int)), (5, .pointer (some ⟨L.s + 9, 0, none⟩)), (9, .slice (some ⟨w6.heap.size, 0, none⟩) i i), (13, .int .i64 (a : Int))]) (fun a => i - a) 0 (by kernel_rfl) ?_ ?_ ?_
              · exact ⟨Nat.zero_le _, rfl⟩
              · exact ⟨rfl, rfl, rfl, rfl, trivial⟩
              rintro a w11 ⟨ha, rfl⟩
              refine W_seq (by kernel_rfl) ?_
              refine W_seq (by kernel_rfl) ?_
              -- R24
              refine W_reg (l := [⟨some 73, Op.move (Operand.tmp 13), 3, none⟩, ⟨some 74, Op.move (Operand.tmp 0), 3, none⟩, ⟨some 75, Op.binOp BinOp.lss 3 (Operand.tmp 73) (Operand.tmp 74) 3, 4, none⟩]) (by kernel_rfl) (by kernel_rfl) ?_
              refine TL_q rfl (QV_move rfl) ?_
              refine TL_q rfl (QV_move rfl) ?_
              refine TL_q rfl (QV_lss rfl rfl) ?_
              refine TL_nil ?_
              refine W_cond (c := Operand.tmp 75) (by kernel_rfl) rfl (fun hc75 => ?_) (fun hc75 => ?_)
              ·
                have hlt : a < i := by have := of_decide_eq_true hc75; omega
                have hae : S9.val.getD a 0 = bs.getD a 0 := by rw [hv9, hbs a hlt]
                refine W_skip (by kernel_rfl) ?_
                refine W_seq (by kernel_rfl) ?_
                refine W_block 5 (by kernel_rfl) ?_
                refine W_seq (by kernel_rfl) ?_
                -- R26
                refine W_regQ (l := [⟨some 78, Op.move (Operand.tmp 5), 25, none⟩, ⟨some 79, Op.move (Operand.tmp 13), 3, none⟩, ⟨some 80, Op.call { callee := Callee.value (Operand.func 26), args := #[Operand.tmp 78, Operand.tmp 79], argTypes := #[25, 3] }, 45, none⟩, ⟨some 81, Op.move (Operand.tmp 9), 47, none⟩, ⟨some 82, Op.move (Operand.tmp 13), 3, none⟩, ⟨some 83, Op.indexAddr 47 (Operand.tmp 81) (Operand.tmp 82), 0, none⟩, ⟨some 84, Op.load 45 (Operand.tmp 83), 45, none⟩, ⟨some 85, Op.binOp BinOp.neq 45 (Operand.tmp 80) (Operand.tmp 84) 45, 4, none⟩]) mix (by kernel_rfl) (by kernel_rfl) (by kernel_rfl) ?_
                refine TQ_q rfl (QV_move rfl) ?_
                refine TQ_q rfl (QV_move rfl) ?_
                refine TQ_call (v := .int .i8 (S9.val.getD a 0)) rfl rfl rfl call26 ((truthOf w9 L i D S9 _ lv9 qv9 h9 a hlt).mono (fun _ _ e => ⟨e.2, e.1⟩)) ?_
                refine TQ_q rfl (QV_move rfl) ?_
                refine TQ_q rfl (QV_move rfl) ?_
                refine TQ_q rfl (QV_idx1 rfl rfl el47 sz45 (hlt)) ?_
                refine TQ_q rfl (QV_load rfl one45 (hb9.c8 (by rw [hbl]; exact hlt))) ?_
                refine TQ_q rfl (QV_neq rfl rfl) ?_
                refine TQ_nil ?_
                refine W_cond (c := Operand.tmp 85) (by kernel_rfl) rfl (fun hc85 => ?_) (fun hc85 => ?_)
                ·
                  exact absurd hae (of_decide_eq_true hc85)
                ·
                  refine W_skip (by kernel_rfl) ?_
                  -- R25
                  refine W_reg (l := [⟨some 76, Op.move (Operand.tmp 13), 3, none⟩, ⟨some 77, Op.binOp BinOp.add 3 (Operand.tmp 76) (Operand.const (Value.int IntKind.i64 1)) 3, 3, none⟩, ⟨some 13, Op.assign (Operand.tmp 77), 3, none⟩]) (by kernel_rfl) (by kernel_rfl) ?_
                  refine TL_q rfl (QV_move rfl) ?_
                  refine TL_q rfl (QV_add (r := ((a + 1 : Nat) : Int)) rfl rfl (by omega) (by omega) (by omega)) ?_
                  refine TL_q rfl (QV_assign rfl) ?_
                  refine TL_nil ?_
                  exact ⟨a + 1, ⟨by omega, rfl⟩, ⟨rfl, rfl, rfl, rfl, trivial⟩, by omega⟩
              ·
                refine W_exit 4 (by kernel_rfl) ?_
                show T Try.prog 86 (C Try.f7 [1, 1, 1, 1, 1, 1, 1, 1, 1, 1, 1, 1, 1]) _ _ _
                refine W_seq (by kernel_rfl) ?_
                -- R28
                refine W_reg (l := [⟨some 4, Op.assign (Operand.const (Value.bool true)), 4, none⟩]) (by kernel_rfl) (by kernel_rfl) ?_
                refine TL_q rfl (QV_assign rfl) ?_
                refine TL_nil ?_
                refine W_ret (by kernel_rfl) ?_
                first
                  | exact ⟨_, rfl, rfl, Fr.refl _ _⟩
                  | exact ⟨_, rfl, rfl, f3⟩
                  | exact ⟨_, rfl, rfl, (((f3.trans f4).trans f5).step (Fr.trans (f6.mono (Y := fun g => L.s < g) (fun _ _ e => e.1)) (f9.mono (fun _ _ e => e.1))) (by have := f3.size; have := f4.size; have := f5.size; intro i hi _ e; omega))⟩

end Go.Proofs.Qxb6600121a
