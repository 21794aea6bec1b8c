/-
   Walks written by program (wip/gen).
-/
import Derived.Test.Qxb6600121aFin
import Derived.Test.Qxb6600121aW23
import Derived.Test.Qxb6600121aW12
import Derived.Test.Qxb6600121aW13
import Derived.Test.Qxb6600121aW14
import Derived.Test.Qxb6600121aW17
import Derived.Test.Qxb6600121aLaw8
namespace Go.Proofs.Qxb6600121a
open Go Go.Proofs
set_option linter.unusedVariables false
set_option linter.unusedSimpArgs false

set_option maxRecDepth 10000 in
set_option maxHeartbeats 1000000 in
theorem freshLaw (w : World) (B : Nat → Prop) (n : Int) (v : Value) (rs : List RD) (hv : RulesAt w.heap B v rs) :
    CallsS Try.prog 8 #[.int .i64 n, v] w (fun r w' => r = .bool true ∧ Fr (fun _ => False) w w') := by
  refine W_fun [4] Try.func8 rfl Try.ntmps8 Try.results8 (Nat.le_of_ble_eq_true rfl) ?_
  refine W_seq (by kernel_rfl) ?_
  -- R0
  refine W_reg (l := [⟨some 4, Op.assign (Operand.const (Value.bool false)), 4, none⟩]) (by kernel_rfl) (by kernel_rfl) ?_
  refine TL_q rfl (QV_assign rfl) ?_
  refine TL_nil ?_
  refine W_seq (by kernel_rfl) ?_
  refine W_seq (by kernel_rfl) ?_
  -- R1
  refine W_reg (l := [⟨some 16, Op.move (Operand.tmp 0), 3, none⟩, ⟨some 17, Op.move (Operand.tmp 1), 22, none⟩, ⟨some 18, Op.call { callee := Callee.value (Operand.func 29), args := #[Operand.tmp 16, Operand.tmp 17], argTypes := #[3, 22] }, 4, none⟩, ⟨some 19, Op.unOp UnOp.not 4 (Operand.tmp 18), 4, none⟩]) (by kernel_rfl) (by kernel_rfl) ?_
  refine TL_q rfl (QV_move rfl) ?_
  refine TL_q rfl (QV_move rfl) ?_
  refine TL_e (EV_callD rfl rfl rfl call29 (bytes29 w B n v rs hv) fun r w1 hr => ?_)
  obtain ⟨hw1, b1, rfl, hb1⟩ := hr
  rw [hw1]
  clear hw1
  refine TL_q rfl (QV_not rfl) ?_
  refine TL_nil ?_
  refine W_cond (c := Operand.tmp 19) (by kernel_rfl) rfl (fun hc19 => ?_) (fun hc19 => ?_)
  ·
    refine W_seq (by kernel_rfl) ?_
    -- R2
    refine W_reg (l := [⟨some 4, Op.assign (Operand.const (Value.bool true)), 4, none⟩]) (by kernel_rfl) (by kernel_rfl) ?_
    refine TL_q rfl (QV_assign rfl) ?_
    refine TL_nil ?_
    refine W_ret (by kernel_rfl) ?_
    first
      | exact ⟨_, rfl, rfl, Fr.refl _ _⟩
      | exact ⟨_, rfl, rfl, f3⟩
      | exact ⟨_, rfl, rfl, (((f3.trans f4).trans f5).step (Fr.trans (f6.mono (Y := fun g => L.s < g) (fun _ _ e => e.1)) (f9.mono (fun _ _ e => e.1))) (by have := f3.size; have := f4.size; have := f5.size; intro i hi _ e; omega))⟩
  ·
    have hb1 := hb1 (by cases b1 <;> first | rfl | cases hc19)
    refine W_skip (by kernel_rfl) ?_
    refine W_seq (by kernel_rfl) ?_
    refine W_seq (by kernel_rfl) ?_
    -- R3
    refine W_reg (l := [⟨some 20, Op.move (Operand.tmp 0), 3, none⟩, ⟨some 21, Op.move (Operand.tmp 1), 22, none⟩, ⟨some 22, Op.call { callee := Callee.value (Operand.func 11), args := #[Operand.tmp 20, Operand.tmp 21], argTypes := #[3, 22] }, 4, none⟩, ⟨some 23, Op.unOp UnOp.not 4 (Operand.tmp 22), 4, none⟩]) (by kernel_rfl) (by kernel_rfl) ?_
    refine TL_q rfl (QV_move rfl) ?_
    refine TL_q rfl (QV_move rfl) ?_
    refine TL_e (EV_callD rfl rfl rfl call11 (sized w B n v rs hv) fun r w2 hr => ?_)
    obtain ⟨hw2, b2, rfl, hb2⟩ := hr
    rw [hw2]
    clear hw2
    refine TL_q rfl (QV_not rfl) ?_
    refine TL_nil ?_
    refine W_cond (c := Operand.tmp 23) (by kernel_rfl) rfl (fun hc23 => ?_) (fun hc23 => ?_)
    ·
      refine W_seq (by kernel_rfl) ?_
      -- R4
      refine W_reg (l := [⟨some 4, Op.assign (Operand.const (Value.bool true)), 4, none⟩]) (by kernel_rfl) (by kernel_rfl) ?_
      refine TL_q rfl (QV_assign rfl) ?_
      refine TL_nil ?_
      refine W_ret (by kernel_rfl) ?_
      first
        | exact ⟨_, rfl, rfl, Fr.refl _ _⟩
        | exact ⟨_, rfl, rfl, f3⟩
        | exact ⟨_, rfl, rfl, (((f3.trans f4).trans f5).step (Fr.trans (f6.mono (Y := fun g => L.s < g) (fun _ _ e => e.1)) (f9.mono (fun _ _ e => e.1))) (by have := f3.size; have := f4.size; have := f5.size; intro i hi _ e; omega))⟩
    ·
      have hb2 := hb2 (by cases b2 <;> first | rfl | cases hc23)
      obtain ⟨n', rfl⟩ := Int.eq_ofNat_of_zero_le hb2.1
      refine W_skip (by kernel_rfl) ?_
      refine W_seq (by kernel_rfl) ?_
      refine W_seq (by kernel_rfl) ?_
      -- R5
      refine W_reg (l := [⟨some 24, Op.move (Operand.tmp 0), 3, none⟩, ⟨some 25, Op.move (Operand.tmp 1), 22, none⟩, ⟨some 26, Op.call { callee := Callee.value (Operand.func 12), args := #[Operand.tmp 24, Operand.tmp 25], argTypes := #[3, 22] }, 4, none⟩, ⟨some 27, Op.unOp UnOp.not 4 (Operand.tmp 26), 4, none⟩]) (by kernel_rfl) (by kernel_rfl) ?_
      refine TL_q rfl (QV_move rfl) ?_
      refine TL_q rfl (QV_move rfl) ?_
      refine TL_e (EV_callD rfl rfl rfl call12 (inRange w B n' v rs hv hb1) fun r w3 hr => ?_)
      obtain ⟨f3, b3, rfl, hb3⟩ := hr
      refine TL_q rfl (QV_not rfl) ?_
      refine TL_nil ?_
      refine W_cond (c := Operand.tmp 27) (by kernel_rfl) rfl (fun hc27 => ?_) (fun hc27 => ?_)
      ·
        refine W_seq (by kernel_rfl) ?_
        -- R6
        refine W_reg (l := [⟨some 4, Op.assign (Operand.const (Value.bool true)), 4, none⟩]) (by kernel_rfl) (by kernel_rfl) ?_
        refine TL_q rfl (QV_assign rfl) ?_
        refine TL_nil ?_
        refine W_ret (by kernel_rfl) ?_
        first
          | exact ⟨_, rfl, rfl, Fr.refl _ _⟩
          | exact ⟨_, rfl, rfl, f3⟩
          | exact ⟨_, rfl, rfl, (((f3.trans f4).trans f5).step (Fr.trans (f6.mono (Y := fun g => L.s < g) (fun _ _ e => e.1)) (f9.mono (fun _ _ e => e.1))) (by have := f3.size; have := f4.size; have := f5.size; intro i hi _ e; omega))⟩
      ·
        have hb3 := hb3 (by cases b3 <;> first | rfl | cases hc27)
        obtain ⟨D, rfl, hok⟩ := plain_of hb3
        rw [List.length_map] at hb1
        refine W_skip (by kernel_rfl) ?_
        refine W_seq (by kernel_rfl) ?_
        -- R7
        refine W_reg (l := [⟨some 28, Op.move (Operand.tmp 1), 22, none⟩, ⟨some 29, Op.call { callee := Callee.value (Operand.func 13), args := #[Operand.tmp 28], argTypes := #[22] }, 22, none⟩, ⟨some 1, Op.assign (Operand.tmp 29), 22, none⟩]) (by kernel_rfl) (by kernel_rfl) ?_
        refine TL_q rfl (QV_move rfl) ?_
        refine TL_e (EV_callD rfl rfl rfl call13 (cloneRules w3 B v _ (hv.fr f3 (fun _ _ h => h)) (by rw [List.length_map]; exact hb1)) fun r w4 hr => ?_)
        obtain ⟨f4, hcl⟩ := hr
        refine TL_q rfl (QV_assign rfl) ?_
        refine TL_nil ?_
        refine W_seq (by kernel_rfl) ?_
        -- R8
        refine W_reg (l := [⟨some 30, Op.move (Operand.tmp 0), 3, none⟩, ⟨some 31, Op.move (Operand.tmp 1), 22, none⟩, ⟨some 32, Op.call { callee := Callee.value (Operand.func 14), args := #[Operand.tmp 30, Operand.tmp 31], argTypes := #[3, 22] }, 25, none⟩, ⟨some 5, Op.assign (Operand.tmp 32), 25, none⟩]) (by kernel_rfl) (by kernel_rfl) ?_
        refine TL_q rfl (QV_move rfl) ?_
        refine TL_q rfl (QV_move rfl) ?_
        refine TL_e (EV_callD rfl rfl rfl call14 (newSolver w4 _ (fun b hb => hb.2) n' r D hcl hok hb1 (by omega)) fun r2 w5 hr => ?_)
        obtain ⟨L, rfl, f5, hL1, hL2, hsol⟩ := hr
        refine TL_q rfl (QV_assign rfl) ?_
        refine TL_nil ?_
        refine W_seq (by kernel_rfl) ?_
        -- R9
        refine W_reg (l := [⟨some 34, Op.move (Operand.tmp 5), 25, none⟩, ⟨some 35, Op.move (Operand.tmp 0), 3, none⟩, ⟨some 36, Op.call { callee := Callee.value (Operand.func 24), args := #[Operand.tmp 34, Operand.tmp 35], argTypes := #[25, 3] }, 40, none⟩, ⟨some 33, Op.move (Operand.tmp 36), 40, none⟩, ⟨some 37, Op.extract (Operand.tmp 33) 0, 27, none⟩, ⟨some 38, Op.extract (Operand.tmp 33) 1, 27, none⟩, ⟨some 39, Op.extract (Operand.tmp 33) 2, 4, none⟩, ⟨some 6, Op.assign (Operand.tmp 37), 27, none⟩, ⟨some 7, Op.assign (Operand.tmp 38), 27, none⟩, ⟨some 8, Op.assign (Operand.tmp 39), 4, none⟩]) (by kernel_rfl) (by kernel_rfl) ?_
        refine TL_q rfl (QV_move rfl) ?_
        refine TL_q rfl (QV_move rfl) ?_
        refine TL_e (EV_callD rfl rfl rfl call24 (solveAll w5 L n' D _ (fun _ => False) nilS nilS (smf_start hsol) hok hb1 (by omega) _ (slvOf (tuTrue D n') hok hb1 (by omega))) fun r3 w6 hr => ?_)
        obtain ⟨av, ev, rfl, atoms, ends, hfin, S6, lv6, qv6, hrk, f6, Pr, -, hIA, hIE, h6⟩ := hr
        have hpart := hfin.part
        have hlen := hpart.len
        have hne := hfin.ne
        obtain ⟨aa, ca, rfl, hca, hpa⟩ := hIA.nat
        obtain ⟨ae, ce, rfl, hce, hpe⟩ := hIE.nat
        have hlt6 := h6.lt
        refine TL_q rfl (QV_move rfl) ?_
        refine TL_q rfl (QV_extract rfl rfl) ?_
        refine TL_q rfl (QV_extract rfl rfl) ?_
        refine TL_q rfl (QV_extract rfl rfl) ?_
        refine TL_q rfl (QV_assign rfl) ?_
        refine TL_q rfl (QV_assign rfl) ?_
        refine TL_q rfl (QV_assign rfl) ?_
        refine TL_nil ?_
        refine W_seq (by kernel_rfl) ?_
        refine W_seq (by kernel_rfl) ?_
        -- R10
        refine W_reg (l := [⟨some 40, Op.move (Operand.tmp 8), 4, none⟩, ⟨some 41, Op.unOp UnOp.not 4 (Operand.tmp 40), 4, none⟩]) (by kernel_rfl) (by kernel_rfl) ?_
        refine TL_q rfl (QV_move rfl) ?_
        refine TL_q rfl (QV_not rfl) ?_
        refine TL_nil ?_
        refine W_cond (c := Operand.tmp 41) (by kernel_rfl) rfl (fun hc41 => ?_) (fun hc41 => ?_)
        ·
          cases hc41
        ·
          refine W_skip (by kernel_rfl) ?_
          refine W_seq (by kernel_rfl) ?_
          -- R12
          refine W_reg (l := [⟨some 42, Op.move (Operand.tmp 0), 3, none⟩, ⟨some 43, Op.makeSlice 47 (Operand.tmp 42) (Operand.tmp 42), 47, none⟩, ⟨some 9, Op.assign (Operand.tmp 43), 47, none⟩]) (by kernel_rfl) (by kernel_rfl) ?_
          refine TL_q rfl (QV_move rfl) ?_
          refine TL_e (EV_make1 rfl rfl rfl el47 in45 rfl (by omega) (by omega) (by omega) fun w7 k7 => ?_)
          have h7 := h6.widen k7
          have hb7 : Blk w7.heap w6.heap.size 45 (i8s (List.replicate n' 0)) := by have := k7.blk; rw [i8s_rep] at this; exact this
          have hnP : ¬ Pr w6.heap.size := fun e => by have := h6.p _ e; omega
          have hfx : FX L Pr w6.heap.size := ⟨by omega, by omega, hnP⟩
          have f7 : Fr (FX L Pr) w6 w7 := k7.fr.mono (fun _ _ h => h.elim)
          refine TL_q rfl (QV_assign rfl) ?_
          refine TL_nil ?_
          refine W_seq (by kernel_rfl) ?_
          refine W_seq (by kernel_rfl) ?_
          -- R13
          refine W_reg (l := [⟨some 10, Op.assign (Operand.const (Value.int IntKind.i64 0)), 3, none⟩]) (by kernel_rfl) (by kernel_rfl) ?_
          refine TL_q rfl (QV_assign rfl) ?_
          refine TL_nil ?_
          refine W_block 0 (by kernel_rfl) ?_
          refine W_loop (ι := Nat × List Int) (fun i w8 => i.1 ≤ n' ∧ i.2.length = n' ∧ (∀ x, x < i.1 → i.2.getD x 0 = S6.val.getD x 0) ∧ SMF w8 w8 L n' D S6 (fun g => Pr g ∨ g = w6.heap.size) lv6 qv6 ∧ Fr (FX L Pr) w6 w8 ∧ Blk w8.heap w6.heap.size 45 (i8s i.2)) (fun i => [(0, .int .i64 (n' : Int)), (5, .pointer (some ⟨L.s + 9, 0, none⟩)), (6, .slice aa atoms.length ca), (7, .slice ae ends.length ce), (9, .slice (some ⟨w6.heap.size, 0, none⟩) n' n'), (10, .int .i64 (i.1 : Int))]) (fun i => n' - i.1) (0, List.replicate n' 0) (by kernel_rfl) ?_ ?_ ?_
          · exact ⟨Nat.zero_le _, by simp, fun x hx => absurd hx (Nat.not_lt_zero _), h7, f7, hb7⟩
          · exact ⟨rfl, rfl, rfl, rfl, rfl, rfl, trivial⟩
          rintro ⟨i, bs⟩ w8 ⟨hi, hbl, hbs, h8, f8, hb8⟩
          dsimp only at hi hbl hbs h8 f8 hb8 ⊢
          refine W_seq (by kernel_rfl) ?_
          refine W_seq (by kernel_rfl) ?_
          -- R14
          refine W_reg (l := [⟨some 44, Op.move (Operand.tmp 10), 3, none⟩, ⟨some 45, Op.move (Operand.tmp 0), 3, none⟩, ⟨some 46, Op.binOp BinOp.lss 3 (Operand.tmp 44) (Operand.tmp 45) 3, 4, none⟩]) (by kernel_rfl) (by kernel_rfl) ?_
          refine TL_q rfl (QV_move rfl) ?_
          refine TL_q rfl (QV_move rfl) ?_
          refine TL_q rfl (QV_lss rfl rfl) ?_
          refine TL_nil ?_
          refine W_cond (c := Operand.tmp 46) (by kernel_rfl) rfl (fun hc46 => ?_) (fun hc46 => ?_)
          ·
            have hlt : i < n' := by have := of_decide_eq_true hc46; omega
            refine W_skip (by kernel_rfl) ?_
            refine W_seq (by kernel_rfl) ?_
            refine W_block 1 (by kernel_rfl) ?_
            -- R16
            refine W_reg (l := [⟨some 49, Op.move (Operand.tmp 9), 47, none⟩, ⟨some 50, Op.move (Operand.tmp 10), 3, none⟩, ⟨some 51, Op.move (Operand.tmp 5), 25, none⟩, ⟨some 52, Op.move (Operand.tmp 10), 3, none⟩, ⟨some 53, Op.call { callee := Callee.value (Operand.func 26), args := #[Operand.tmp 51, Operand.tmp 52], argTypes := #[25, 3] }, 45, none⟩, ⟨some 54, Op.indexAddr 47 (Operand.tmp 49) (Operand.tmp 50), 0, none⟩, ⟨none, Op.store 45 (Operand.tmp 54) (Operand.tmp 53), 0, none⟩]) (by kernel_rfl) (by kernel_rfl) ?_
            refine TL_q rfl (QV_move rfl) ?_
            refine TL_q rfl (QV_move rfl) ?_
            refine TL_q rfl (QV_move rfl) ?_
            refine TL_q rfl (QV_move rfl) ?_
            refine TL_e (EV_callD rfl rfl rfl call26 (truthOf w8 L n' D S6 _ lv6 qv6 h8 i hlt) fun r9 w9 hr9 => ?_)
            obtain ⟨hw9, rfl⟩ := hr9
            rw [hw9]
            clear hw9
            refine TL_q rfl (QV_idx1 rfl rfl el47 sz45 (hlt)) ?_
            refine TL_e (EV_store rfl rfl rfl sz45 hb8 (by rw [i8s_len, hbl]; exact hlt) fun w10 u10 => ?_)
            have h10 := h8.beside u10 (.inr rfl) hlt6
            have hb10 := u10.blk
            rw [i8s_set] at hb10
            have f10 : Fr (FX L Pr) w6 w10 := f8.trans (u10.fr.mono (fun k _ e => by rw [e]; exact hfx))
            refine TL_nil ?_
            -- R15
            refine W_reg (l := [⟨some 47, Op.move (Operand.tmp 10), 3, none⟩, ⟨some 48, Op.binOp BinOp.add 3 (Operand.tmp 47) (Operand.const (Value.int IntKind.i64 1)) 3, 3, none⟩, ⟨some 10, Op.assign (Operand.tmp 48), 3, none⟩]) (by kernel_rfl) (by kernel_rfl) ?_
            refine TL_q rfl (QV_move rfl) ?_
            refine TL_q rfl (QV_add (r := ((i + 1 : Nat) : Int)) rfl rfl (by omega) (by omega) (by omega)) ?_
            refine TL_q rfl (QV_assign rfl) ?_
            refine TL_nil ?_
            refine ⟨(i + 1, bs.set i (S6.val.getD i 0)), ⟨by omega, by simp [hbl], fun x hx => ?_, h10, f10, hb10⟩, ⟨rfl, rfl, rfl, rfl, rfl, rfl, trivial⟩, by show n' - (i + 1) < n' - i; omega⟩
            dsimp only at hx ⊢
            by_cases hxi : i = x
            · subst hxi; exact getD_set_eq _ _ _ _ (by omega)
            · rw [getD_set_ne' _ _ _ _ _ hxi]; exact hbs x (by omega)
          ·
            have hie : i = n' := by have := of_decide_eq_false hc46; omega
            have hbv : ∀ x, x < n' → bs.getD x 0 = S6.val.getD x 0 := fun x hx => hbs x (by omega)
            refine W_exit 0 (by kernel_rfl) ?_
            show T Try.prog 130 (C Try.f8 [1, 1, 1, 1, 1, 1, 1, 1, 1, 1]) _ _ _
            refine W_seq (by kernel_rfl) ?_
            -- R17
            refine W_reg (l := [⟨some 11, Op.assign (Operand.const (Value.int IntKind.i64 0)), 3, none⟩]) (by kernel_rfl) (by kernel_rfl) ?_
            refine TL_q rfl (QV_assign rfl) ?_
            refine TL_nil ?_
            refine W_seq (by kernel_rfl) ?_
            refine W_seq (by kernel_rfl) ?_
            -- R18
            refine W_reg (l := [⟨some 12, Op.assign (Operand.const (Value.int IntKind.i64 0)), 3, none⟩]) (by kernel_rfl) (by kernel_rfl) ?_
            refine TL_q rfl (QV_assign rfl) ?_
            refine TL_nil ?_
            refine W_block 2 (by kernel_rfl) ?_
            refine W_loop (ι := Nat × FS) (fun j w9 => j.1 ≤ ends.length ∧ RKx D n' (fun _ => True) (fun _ => False) atoms ends ends.length (ends.length + j.1) j.2.S ∧ j.2.S.val = S6.val ∧ SMF w9 w9 L n' D j.2.S (fun g => Pr g ∨ g = w6.heap.size) j.2.lv j.2.qv ∧ Fr (FX L Pr) w6 w9 ∧ Blk w9.heap w6.heap.size 45 (i8s bs)) (fun j => [(0, .int .i64 (n' : Int)), (5, .pointer (some ⟨L.s + 9, 0, none⟩)), (6, .slice aa atoms.length ca), (7, .slice ae ends.length ce), (9, .slice (some ⟨w6.heap.size, 0, none⟩) n' n'), (11, .int .i64 ((prevE ends j.1 : Nat) : Int)), (12, .int .i64 (j.1 : Int))]) (fun j => ends.length - j.1) (0, ⟨S6, lv6, qv6⟩) (by kernel_rfl) ?_ ?_ ?_
            · exact ⟨Nat.zero_le _, hrk.1, rfl, h8, f8, hb8⟩
            · exact ⟨rfl, rfl, rfl, rfl, rfl, rfl, rfl, trivial⟩
            rintro ⟨k, S9, lv9, qv9⟩ w9 ⟨hk, hrk9, hv9, h9, f9, hb9⟩
            dsimp only at hk hrk9 hv9 h9 f9 hb9 ⊢
            refine W_seq (by kernel_rfl) ?_
            refine W_seq (by kernel_rfl) ?_
            -- R19
            refine W_reg (l := [⟨some 55, Op.move (Operand.tmp 12), 3, none⟩, ⟨some 56, Op.move (Operand.tmp 7), 27, none⟩, ⟨some 57, Op.call { callee := Callee.builtin Builtin.len, args := #[Operand.tmp 56], argTypes := #[27] }, 3, none⟩, ⟨some 58, Op.binOp BinOp.lss 3 (Operand.tmp 55) (Operand.tmp 57) 3, 4, none⟩]) (by kernel_rfl) (by kernel_rfl) ?_
            refine TL_q rfl (QV_move rfl) ?_
            refine TL_q rfl (QV_move rfl) ?_
            refine TL_q rfl (QV_len rfl el27) ?_
            refine TL_q rfl (QV_lss rfl rfl) ?_
            refine TL_nil ?_
            refine W_cond (c := Operand.tmp 58) (by kernel_rfl) rfl (fun hc58 => ?_) (fun hc58 => ?_)
            ·
              have hlt : k < ends.length := by have := of_decide_eq_true hc58; omega
              have hinc := hpart.inc k hlt
              have hmono := hpart.ends_le (Nat.le_of_lt hlt)
              have hlo9 : S9.lost = [] := hrk9.lost
              obtain ⟨b, o, rfl, hbB, hcel⟩ := hpe (by omega)
              obtain ⟨b3, o3, rfl, hbB3, hcel3⟩ := hpa (by omega)
              refine W_skip (by kernel_rfl) ?_
              refine W_seq (by kernel_rfl) ?_
              refine W_block 3 (by kernel_rfl) ?_
              refine W_seq (by kernel_rfl) ?_
              refine W_seq (by kernel_rfl) ?_
              -- R21
              refine W_reg (l := [⟨some 61, Op.move (Operand.tmp 11), 3, none⟩, ⟨some 13, Op.assign (Operand.tmp 61), 3, none⟩]) (by kernel_rfl) (by kernel_rfl) ?_
              refine TL_q rfl (QV_move rfl) ?_
              refine TL_q rfl (QV_assign rfl) ?_
              refine TL_nil ?_
              refine W_block 4 (by kernel_rfl) ?_
              refine W_loop (ι := Nat × Value) (fun j w10 => prevE ends k ≤ j.1 ∧ j.1 ≤ ends.getD k 0 ∧ SMF w10 w10 L n' D (lsS S9 (sgTo atoms ends k j.1)) (fun g => Pr g ∨ g = w6.heap.size) j.2 qv9 ∧ Fr (FX L Pr) w6 w10 ∧ Blk w10.heap w6.heap.size 45 (i8s bs)) (fun j => [(0, .int .i64 (n' : Int)), (5, .pointer (some ⟨L.s + 9, 0, none⟩)), (6, .slice (some ⟨b3, o3, none⟩) atoms.length ca), (7, .slice (some ⟨b, o, none⟩) ends.length ce), (9, .slice (some ⟨w6.heap.size, 0, none⟩) n' n'), (11, .int .i64 ((prevE ends k : Nat) : Int)), (12, .int .i64 (k : Int)), (13, .int .i64 (j.1 : Int))]) (fun j => ends.getD k 0 - j.1) (prevE ends k, lv9) (by kernel_rfl) ?_ ?_ ?_
              · exact ⟨Nat.le_refl _, by omega, by rw [sgTo_start, lsS_nil]; exact h9, f9, hb9⟩
              · exact ⟨rfl, rfl, rfl, rfl, rfl, rfl, rfl, rfl, trivial⟩
              rintro ⟨m, lv10⟩ w10 ⟨hm1, hm2, h10, f10, hb10⟩
              dsimp only at hm1 hm2 h10 f10 hb10 ⊢
              refine W_seq (by kernel_rfl) ?_
              refine W_seq (by kernel_rfl) ?_
              -- R22
              refine W_reg (l := [⟨some 62, Op.move (Operand.tmp 13), 3, none⟩, ⟨some 63, Op.move (Operand.tmp 7), 27, none⟩, ⟨some 64, Op.move (Operand.tmp 12), 3, none⟩, ⟨some 65, Op.indexAddr 27 (Operand.tmp 63) (Operand.tmp 64), 0, none⟩, ⟨some 66, Op.load 3 (Operand.tmp 65), 3, none⟩, ⟨some 67, Op.binOp BinOp.lss 3 (Operand.tmp 62) (Operand.tmp 66) 3, 4, none⟩]) (by kernel_rfl) (by kernel_rfl) ?_
              refine TL_q rfl (QV_move rfl) ?_
              refine TL_q rfl (QV_move rfl) ?_
              refine TL_q rfl (QV_move rfl) ?_
              refine TL_q rfl (QV_idxO rfl rfl el27 sz3 (hlt)) ?_
              refine TL_q rfl (QV_load rfl one3 (cel_fr (hcel k hlt) f10 (fun e => e.2.2 hbB))) ?_
              refine TL_q rfl (QV_lss rfl rfl) ?_
              refine TL_nil ?_
              refine W_cond (c := Operand.tmp 67) (by kernel_rfl) rfl (fun hc67 => ?_) (fun hc67 => ?_)
              ·
                have hm3 : m < ends.getD k 0 := by have := of_decide_eq_true hc67; omega
                have hma : m < atoms.length := by omega
                have ham : atoms.getD m 0 < n' := hpart.lt m (by omega)
                have hva : bs.getD (atoms.getD m 0) 0 = S9.val.getD (atoms.getD m 0) 0 := by rw [hv9, hbv _ ham]
                refine W_skip (by kernel_rfl) ?_
                refine W_seq (by kernel_rfl) ?_
                refine W_block 5 (by kernel_rfl) ?_
                refine W_seq (by kernel_rfl) ?_
                -- R24
                refine W_reg (l := [⟨some 70, Op.move (Operand.tmp 9), 47, none⟩, ⟨some 71, Op.move (Operand.tmp 6), 27, none⟩, ⟨some 72, Op.move (Operand.tmp 13), 3, none⟩, ⟨some 73, Op.indexAddr 27 (Operand.tmp 71) (Operand.tmp 72), 0, none⟩, ⟨some 74, Op.load 3 (Operand.tmp 73), 3, none⟩, ⟨some 75, Op.indexAddr 47 (Operand.tmp 70) (Operand.tmp 74), 0, none⟩, ⟨some 76, Op.load 45 (Operand.tmp 75), 45, none⟩, ⟨some 77, Op.binOp BinOp.eql 45 (Operand.tmp 76) (Operand.const (Value.int IntKind.i8 1)) 45, 4, none⟩]) (by kernel_rfl) (by kernel_rfl) ?_
                refine TL_q rfl (QV_move rfl) ?_
                refine TL_q rfl (QV_move rfl) ?_
                refine TL_q rfl (QV_move rfl) ?_
                refine TL_q rfl (QV_idxO rfl rfl el27 sz3 (hma)) ?_
                refine TL_q rfl (QV_load rfl one3 (cel_fr (hcel3 m hma) f10 (fun e => e.2.2 hbB3))) ?_
                refine TL_q rfl (QV_idx1 rfl rfl el47 sz45 (ham)) ?_
                refine TL_q rfl (QV_load rfl one45 (hb10.c8 (by rw [hbl]; exact ham))) ?_
                refine TL_q rfl (QV_eql rfl rfl) ?_
                refine TL_nil ?_
                refine W_cond (c := Operand.tmp 77) (by kernel_rfl) rfl (fun hc77 => ?_) (fun hc77 => ?_)
                ·
                  -- R25
                  refine W_reg (l := [⟨some 78, Op.move (Operand.tmp 5), 25, none⟩, ⟨some 79, Op.move (Operand.tmp 6), 27, none⟩, ⟨some 80, Op.move (Operand.tmp 13), 3, none⟩, ⟨some 81, Op.indexAddr 27 (Operand.tmp 79) (Operand.tmp 80), 0, none⟩, ⟨some 82, Op.load 3 (Operand.tmp 81), 3, none⟩, ⟨some 83, Op.call { callee := Callee.value (Operand.func 30), args := #[Operand.tmp 78, Operand.tmp 82], argTypes := #[25, 3] }, 0, none⟩]) (by kernel_rfl) (by kernel_rfl) ?_
                  refine TL_q rfl (QV_move rfl) ?_
                  refine TL_q rfl (QV_move rfl) ?_
                  refine TL_q rfl (QV_move rfl) ?_
                  refine TL_q rfl (QV_idxO rfl rfl el27 sz3 (hma)) ?_
                  refine TL_q rfl (QV_load rfl one3 (cel_fr (hcel3 m hma) f10 (fun e => e.2.2 hbB3))) ?_
                  refine TL_e (EV_callD rfl rfl rfl call30 (forgetSource w10 L n' D _ _ lv10 qv9 h10 (atoms.getD m 0) ham (by show (S9.lost ++ unds S9 (sgTo atoms ends k m)).length ≤ _; have h1 := unds_len S9 (sgTo atoms ends k m); have h2 := sgTo_len (atoms := atoms) (ends := ends) (k := k) m; rw [hlo9, List.nil_append]; omega)) fun r11 w11 hr11 => ?_)
                  obtain ⟨rfl, lv11, h11⟩ := hr11
                  have hyes : S9.val.getD (atoms.getD m 0) 0 = 1 := hva.symm.trans (of_decide_eq_true hc77)
                  have h12 : SMF w11 w11 L n' D (lsS S9 (sgTo atoms ends k (m + 1))) (fun g => Pr g ∨ g = w6.heap.size) lv11 qv9 := by rw [sgTo_succ hm1 hma, lsS_yes _ _ _ hyes]; exact h11.self
                  have f11 : Fr (FX L Pr) w6 w11 := f10.trans (h11.f.mono (fun g _ e => ⟨e.1, e.2.1, fun e2 => e.2.2 (.inl e2)⟩))
                  have hb11 := hb10.fr h11.f (fun e => e.2.2 (.inr rfl))
                  refine TL_nil ?_
                  -- R23
                  refine W_reg (l := [⟨some 68, Op.move (Operand.tmp 13), 3, none⟩, ⟨some 69, Op.binOp BinOp.add 3 (Operand.tmp 68) (Operand.const (Value.int IntKind.i64 1)) 3, 3, none⟩, ⟨some 13, Op.assign (Operand.tmp 69), 3, none⟩]) (by kernel_rfl) (by kernel_rfl) ?_
                  refine TL_q rfl (QV_move rfl) ?_
                  refine TL_q rfl (QV_add (r := ((m + 1 : Nat) : Int)) rfl rfl (by omega) (by omega) (by omega)) ?_
                  refine TL_q rfl (QV_assign rfl) ?_
                  refine TL_nil ?_
                  first
                    | exact ⟨(m + 1, lv11), ⟨by omega, by omega, h12, f11, hb11⟩, ⟨rfl, rfl, rfl, rfl, rfl, rfl, rfl, rfl, trivial⟩, by show ends.getD k 0 - (m + 1) < ends.getD k 0 - m; omega⟩
                    | exact ⟨(m + 1, lv10), ⟨by omega, by omega, h12, f10, hb10⟩, ⟨rfl, rfl, rfl, rfl, rfl, rfl, rfl, rfl, trivial⟩, by show ends.getD k 0 - (m + 1) < ends.getD k 0 - m; omega⟩
                ·
                  have hno : S9.val.getD (atoms.getD m 0) 0 ≠ 1 := fun e => of_decide_eq_false hc77 (hva.trans e)
                  have h12 : SMF w10 w10 L n' D (lsS S9 (sgTo atoms ends k (m + 1))) (fun g => Pr g ∨ g = w6.heap.size) lv10 qv9 := by rw [sgTo_succ hm1 hma, lsS_no _ _ _ hno]; exact h10
                  refine W_skip (by kernel_rfl) ?_
                  -- R23
                  refine W_reg (l := [⟨some 68, Op.move (Operand.tmp 13), 3, none⟩, ⟨some 69, Op.binOp BinOp.add 3 (Operand.tmp 68) (Operand.const (Value.int IntKind.i64 1)) 3, 3, none⟩, ⟨some 13, Op.assign (Operand.tmp 69), 3, none⟩]) (by kernel_rfl) (by kernel_rfl) ?_
                  refine TL_q rfl (QV_move rfl) ?_
                  refine TL_q rfl (QV_add (r := ((m + 1 : Nat) : Int)) rfl rfl (by omega) (by omega) (by omega)) ?_
                  refine TL_q rfl (QV_assign rfl) ?_
                  refine TL_nil ?_
                  first
                    | exact ⟨(m + 1, lv11), ⟨by omega, by omega, h12, f11, hb11⟩, ⟨rfl, rfl, rfl, rfl, rfl, rfl, rfl, rfl, trivial⟩, by show ends.getD k 0 - (m + 1) < ends.getD k 0 - m; omega⟩
                    | exact ⟨(m + 1, lv10), ⟨by omega, by omega, h12, f10, hb10⟩, ⟨rfl, rfl, rfl, rfl, rfl, rfl, rfl, rfl, trivial⟩, by show ends.getD k 0 - (m + 1) < ends.getD k 0 - m; omega⟩
              ·
                have hme : m = ends.getD k 0 := by have := of_decide_eq_false hc67; omega
                have hs10 : SMF w10 w10 L n' D (lsS S9 (sg atoms ends k)) (fun g => Pr g ∨ g = w6.heap.size) lv10 qv9 := by rw [hme, sgTo_end] at h10; exact h10
                refine W_exit 4 (by kernel_rfl) ?_
                show T Try.prog 130 (C Try.f8 [1, 0, 0, 1, 0, 0, 1, 0, 1, 1, 1, 1, 1, 1, 1, 1, 1, 1, 1]) _ _ _
                refine W_seq (by kernel_rfl) ?_
                refine W_seq (by kernel_rfl) ?_
                -- R26
                refine W_reg (l := [⟨some 84, Op.move (Operand.tmp 5), 25, none⟩, ⟨some 85, Op.move (Operand.tmp 12), 3, none⟩, ⟨some 86, Op.call { callee := Callee.value (Operand.func 31), args := #[Operand.tmp 84, Operand.tmp 85], argTypes := #[25, 3] }, 4, none⟩]) (by kernel_rfl) (by kernel_rfl) ?_
                refine TL_q rfl (QV_move rfl) ?_
                refine TL_q rfl (QV_move rfl) ?_
                refine TL_e (EV_callD rfl rfl rfl call31 (refute31 w10 L n' D _ _ lv10 qv9 hs10 hok hb1 (by omega) k _ (frsh (tuTrue D n') hok hb1 (by omega) hpart hrk9 (by omega) hlt)) fun r11 w11 hr11 => ?_)
                obtain ⟨b11, rfl, S11, lv11, qv11, hR, h11⟩ := hr11
                have eb := hR.b
                subst eb
                have hv11 : S11.val = S6.val := hR.val.trans hv9
                have f11 : Fr (FX L Pr) w6 w11 := f10.trans (h11.f.mono (fun g _ e => ⟨e.1, e.2.1, fun e2 => e.2.2 (.inl e2)⟩))
                have hb11 := hb10.fr h11.f (fun e => e.2.2 (.inr rfl))
                refine TL_nil ?_
                refine W_cond (c := Operand.tmp 86) (by kernel_rfl) rfl (fun hc86 => ?_) (fun hc86 => ?_)
                ·
                  cases hc86
                ·
                  refine W_skip (by kernel_rfl) ?_
                  refine W_seq (by kernel_rfl) ?_
                  refine W_seq (by kernel_rfl) ?_
                  -- R28
                  refine W_reg (l := [⟨some 87, Op.move (Operand.tmp 11), 3, none⟩, ⟨some 14, Op.assign (Operand.tmp 87), 3, none⟩]) (by kernel_rfl) (by kernel_rfl) ?_
                  refine TL_q rfl (QV_move rfl) ?_
                  refine TL_q rfl (QV_assign rfl) ?_
                  refine TL_nil ?_
                  refine W_block 6 (by kernel_rfl) ?_
                  refine W_loop (fun (m : Nat) w12 => prevE ends k ≤ m ∧ m ≤ ends.getD k 0 ∧ w11 = w12) (fun m => [(0, .int .i64 (n' : Int)), (5, .pointer (some ⟨L.s + 9, 0, none⟩)), (6, .slice (some ⟨b3, o3, none⟩) atoms.length ca), (7, .slice (some ⟨b, o, none⟩) ends.length ce), (9, .slice (some ⟨w6.heap.size, 0, none⟩) n' n'), (11, .int .i64 ((prevE ends k : Nat) : Int)), (12, .int .i64 (k : Int)), (14, .int .i64 (m : Int))]) (fun m => ends.getD k 0 - m) (prevE ends k) (by kernel_rfl) ?_ ?_ ?_
                  · exact ⟨Nat.le_refl _, by omega, rfl⟩
                  · exact ⟨rfl, rfl, rfl, rfl, rfl, rfl, rfl, rfl, trivial⟩
                  rintro m w12 ⟨hm1, hm2, rfl⟩
                  refine W_seq (by kernel_rfl) ?_
                  refine W_seq (by kernel_rfl) ?_
                  -- R29
                  refine W_reg (l := [⟨some 88, Op.move (Operand.tmp 14), 3, none⟩, ⟨some 89, Op.move (Operand.tmp 7), 27, none⟩, ⟨some 90, Op.move (Operand.tmp 12), 3, none⟩, ⟨some 91, Op.indexAddr 27 (Operand.tmp 89) (Operand.tmp 90), 0, none⟩, ⟨some 92, Op.load 3 (Operand.tmp 91), 3, none⟩, ⟨some 93, Op.binOp BinOp.lss 3 (Operand.tmp 88) (Operand.tmp 92) 3, 4, none⟩]) (by kernel_rfl) (by kernel_rfl) ?_
                  refine TL_q rfl (QV_move rfl) ?_
                  refine TL_q rfl (QV_move rfl) ?_
                  refine TL_q rfl (QV_move rfl) ?_
                  refine TL_q rfl (QV_idxO rfl rfl el27 sz3 (hlt)) ?_
                  refine TL_q rfl (QV_load rfl one3 (cel_fr (hcel k hlt) f11 (fun e => e.2.2 hbB))) ?_
                  refine TL_q rfl (QV_lss rfl rfl) ?_
                  refine TL_nil ?_
                  refine W_cond (c := Operand.tmp 93) (by kernel_rfl) rfl (fun hc93 => ?_) (fun hc93 => ?_)
                  ·
                    have hm3 : m < ends.getD k 0 := by have := of_decide_eq_true hc93; omega
                    have hma : m < atoms.length := by omega
                    have ham : atoms.getD m 0 < n' := hpart.lt m (by omega)
                    have hva : bs.getD (atoms.getD m 0) 0 = S11.val.getD (atoms.getD m 0) 0 := by rw [hv11, hbv _ ham]
                    refine W_skip (by kernel_rfl) ?_
                    refine W_seq (by kernel_rfl) ?_
                    refine W_block 7 (by kernel_rfl) ?_
                    refine W_seq (by kernel_rfl) ?_
                    -- R31
                    refine W_reg (l := [⟨some 96, Op.move (Operand.tmp 9), 47, none⟩, ⟨some 97, Op.move (Operand.tmp 6), 27, none⟩, ⟨some 98, Op.move (Operand.tmp 14), 3, none⟩, ⟨some 99, Op.indexAddr 27 (Operand.tmp 97) (Operand.tmp 98), 0, none⟩, ⟨some 100, Op.load 3 (Operand.tmp 99), 3, none⟩, ⟨some 101, Op.indexAddr 47 (Operand.tmp 96) (Operand.tmp 100), 0, none⟩, ⟨some 102, Op.load 45 (Operand.tmp 101), 45, none⟩, ⟨some 103, Op.binOp BinOp.eql 45 (Operand.tmp 102) (Operand.const (Value.int IntKind.i8 1)) 45, 4, none⟩, ⟨some 104, Op.move (Operand.tmp 103), 4, none⟩, ⟨some 105, Op.move (Operand.tmp 5), 25, some (8, true)⟩, ⟨some 106, Op.move (Operand.tmp 6), 27, some (8, true)⟩, ⟨some 107, Op.move (Operand.tmp 14), 3, some (8, true)⟩, ⟨some 108, Op.indexAddr 27 (Operand.tmp 106) (Operand.tmp 107), 0, some (8, true)⟩, ⟨some 109, Op.load 3 (Operand.tmp 108), 3, some (8, true)⟩, ⟨some 110, Op.call { callee := Callee.value (Operand.func 32), args := #[Operand.tmp 105, Operand.tmp 109], argTypes := #[25, 3] }, 3, some (8, true)⟩, ⟨some 111, Op.binOp BinOp.lss 3 (Operand.tmp 110) (Operand.const (Value.int IntKind.i64 0)) 3, 4, some (8, true)⟩, ⟨some 112, Op.pick (Operand.tmp 104) (Operand.tmp 111) (Operand.const (Value.bool false)), 4, none⟩]) (by kernel_rfl) (by kernel_rfl) ?_
                    refine TL_q rfl (QV_move rfl) ?_
                    refine TL_q rfl (QV_move rfl) ?_
                    refine TL_q rfl (QV_move rfl) ?_
                    refine TL_q rfl (QV_idxO rfl rfl el27 sz3 (hma)) ?_
                    refine TL_q rfl (QV_load rfl one3 (cel_fr (hcel3 m hma) f11 (fun e => e.2.2 hbB3))) ?_
                    refine TL_q rfl (QV_idx1 rfl rfl el47 sz45 (ham)) ?_
                    refine TL_q rfl (QV_load rfl one45 (hb11.c8 (by rw [hbl]; exact ham))) ?_
                    refine TL_q rfl (QV_eql rfl rfl) ?_
                    refine TL_q rfl (QV_move rfl) ?_
                    refine TL_cases (t := 104) rfl (fun hb104 => ?_) (fun hb104 => ?_)
                    ·
                      have hsrc := hR.src _ (sg_mem hm1 hm3 (by omega)) (hva.symm.trans (of_decide_eq_true hb104))
                      refine TL_gq rfl rfl rfl rfl (QV_move rfl) ?_
                      refine TL_gq rfl rfl rfl rfl (QV_move rfl) ?_
                      refine TL_gq rfl rfl rfl rfl (QV_move rfl) ?_
                      refine TL_gq rfl rfl rfl rfl (QV_idxO rfl rfl el27 sz3 (hma)) ?_
                      refine TL_gq rfl rfl rfl rfl (QV_load rfl one3 (cel_fr (hcel3 m hma) f11 (fun e => e.2.2 hbB3))) ?_
                      refine TL_ge rfl rfl rfl (EV_callD rfl rfl rfl call32 (sourceOf w11 L n' D S11 _ lv11 qv11 h11.self (atoms.getD m 0) ham) fun r13 w13 hr13 => ?_)
                      first | (obtain ⟨hw13, rfl⟩ := hr13; rw [hw13]; clear hw13) | skip
                      refine TL_gq rfl rfl rfl rfl (QV_lss rfl rfl) ?_
                      refine TL_q rfl (QV_pickT rfl rfl) ?_
                      refine TL_nil ?_
                      refine W_cond (c := Operand.tmp 112) (by kernel_rfl) rfl (fun hc112 => ?_) (fun hc112 => ?_)
                      ·
                        exact absurd (of_decide_eq_true hc112) (Int.not_lt.2 hsrc)
                      ·
                        refine W_skip (by kernel_rfl) ?_
                        -- R30
                        refine W_reg (l := [⟨some 94, Op.move (Operand.tmp 14), 3, none⟩, ⟨some 95, Op.binOp BinOp.add 3 (Operand.tmp 94) (Operand.const (Value.int IntKind.i64 1)) 3, 3, none⟩, ⟨some 14, Op.assign (Operand.tmp 95), 3, none⟩]) (by kernel_rfl) (by kernel_rfl) ?_
                        refine TL_q rfl (QV_move rfl) ?_
                        refine TL_q rfl (QV_add (r := ((m + 1 : Nat) : Int)) rfl rfl (by omega) (by omega) (by omega)) ?_
                        refine TL_q rfl (QV_assign rfl) ?_
                        refine TL_nil ?_
                        exact ⟨m + 1, ⟨by omega, by omega, rfl⟩, ⟨rfl, rfl, rfl, rfl, rfl, rfl, rfl, rfl, trivial⟩, by omega⟩
                    ·
                      refine TL_gs rfl rfl rfl rfl ?_
                      refine TL_gs rfl rfl rfl rfl ?_
                      refine TL_gs rfl rfl rfl rfl ?_
                      refine TL_gs rfl rfl rfl rfl ?_
                      refine TL_gs rfl rfl rfl rfl ?_
                      refine TL_gs rfl rfl rfl rfl ?_
                      first | (obtain ⟨hw13, rfl⟩ := hr13; rw [hw13]; clear hw13) | skip
                      refine TL_gs rfl rfl rfl rfl ?_
                      refine TL_q rfl (QV_pickF rfl rfl) ?_
                      refine TL_nil ?_
                      refine W_condF (c := Operand.tmp 112) (by kernel_rfl) rfl ?_
                      refine W_skip (by kernel_rfl) ?_
                      -- R30
                      refine W_reg (l := [⟨some 94, Op.move (Operand.tmp 14), 3, none⟩, ⟨some 95, Op.binOp BinOp.add 3 (Operand.tmp 94) (Operand.const (Value.int IntKind.i64 1)) 3, 3, none⟩, ⟨some 14, Op.assign (Operand.tmp 95), 3, none⟩]) (by kernel_rfl) (by kernel_rfl) ?_
                      refine TL_q rfl (QV_move rfl) ?_
                      refine TL_q rfl (QV_add (r := ((m + 1 : Nat) : Int)) rfl rfl (by omega) (by omega) (by omega)) ?_
                      refine TL_q rfl (QV_assign rfl) ?_
                      refine TL_nil ?_
                      exact ⟨m + 1, ⟨by omega, by omega, rfl⟩, ⟨rfl, rfl, rfl, rfl, rfl, rfl, rfl, rfl, trivial⟩, by omega⟩
                  ·
                    refine W_exit 6 (by kernel_rfl) ?_
                    show T Try.prog 130 (C Try.f8 [1, 1, 1, 0, 0, 1, 0, 0, 1, 0, 1, 1, 1, 1, 1, 1, 1, 1, 1, 1, 1]) _ _ _
                    -- R33
                    refine W_reg (l := [⟨some 113, Op.move (Operand.tmp 7), 27, none⟩, ⟨some 114, Op.move (Operand.tmp 12), 3, none⟩, ⟨some 115, Op.indexAddr 27 (Operand.tmp 113) (Operand.tmp 114), 0, none⟩, ⟨some 116, Op.load 3 (Operand.tmp 115), 3, none⟩, ⟨some 11, Op.assign (Operand.tmp 116), 3, none⟩]) (by kernel_rfl) (by kernel_rfl) ?_
                    refine TL_q rfl (QV_move rfl) ?_
                    refine TL_q rfl (QV_move rfl) ?_
                    refine TL_q rfl (QV_idxO rfl rfl el27 sz3 (hlt)) ?_
                    refine TL_q rfl (QV_load rfl one3 (cel_fr (hcel k hlt) f11 (fun e => e.2.2 hbB))) ?_
                    refine TL_q rfl (QV_assign rfl) ?_
                    refine TL_nil ?_
                    -- R20
                    refine W_reg (l := [⟨some 59, Op.move (Operand.tmp 12), 3, none⟩, ⟨some 60, Op.binOp BinOp.add 3 (Operand.tmp 59) (Operand.const (Value.int IntKind.i64 1)) 3, 3, none⟩, ⟨some 12, Op.assign (Operand.tmp 60), 3, none⟩]) (by kernel_rfl) (by kernel_rfl) ?_
                    refine TL_q rfl (QV_move rfl) ?_
                    refine TL_q rfl (QV_add (r := ((k + 1 : Nat) : Int)) rfl rfl (by omega) (by omega) (by omega)) ?_
                    refine TL_q rfl (QV_assign rfl) ?_
                    refine TL_nil ?_
                    exact ⟨(k + 1, ⟨S11, lv11, qv11⟩), ⟨by omega, hR.rk, hv11, h11.self, f11, hb11⟩, ⟨rfl, rfl, rfl, rfl, rfl, sint (by rw [prevE_succ]), rfl, trivial⟩, by show ends.length - (k + 1) < ends.length - k; omega⟩
            ·
              have hke : k = ends.length := by have := of_decide_eq_false hc58; omega
              refine W_exit 2 (by kernel_rfl) ?_
              show T Try.prog 130 (C Try.f8 [1, 1, 1, 1, 1, 1, 1, 1, 1, 1, 1, 1]) _ _ _
              refine W_seq (by kernel_rfl) ?_
              refine W_seq (by kernel_rfl) ?_
              -- R34
              refine W_reg (l := [⟨some 15, Op.assign (Operand.const (Value.int IntKind.i64 0)), 3, none⟩]) (by kernel_rfl) (by kernel_rfl) ?_
              refine TL_q rfl (QV_assign rfl) ?_
              refine TL_nil ?_
              refine W_block 8 (by kernel_rfl) ?_
              refine W_loop (fun (a : Nat) w11 => a ≤ n' ∧ w9 = w11) (fun a => [(0, .int .i64 (n' : Int)), (5, .pointer (some ⟨L.s + 9, 0, none⟩)), (9, .slice (some ⟨w6.heap.size, 0, none⟩) n' n'), (15, .int .i64 (a : Int))]) (fun a => n' - a) 0 (by kernel_rfl) ?_ ?_ ?_
              · exact ⟨Nat.zero_le _, rfl⟩
              · exact ⟨rfl, rfl, rfl, rfl, trivial⟩
              rintro a w11 ⟨ha, rfl⟩
              refine W_seq (by kernel_rfl) ?_
              refine W_seq (by kernel_rfl) ?_
              -- R35
              refine W_reg (l := [⟨some 117, Op.move (Operand.tmp 15), 3, none⟩, ⟨some 118, Op.move (Operand.tmp 0), 3, none⟩, ⟨some 119, Op.binOp BinOp.lss 3 (Operand.tmp 117) (Operand.tmp 118) 3, 4, none⟩]) (by kernel_rfl) (by kernel_rfl) ?_
              refine TL_q rfl (QV_move rfl) ?_
              refine TL_q rfl (QV_move rfl) ?_
              refine TL_q rfl (QV_lss rfl rfl) ?_
              refine TL_nil ?_
              refine W_cond (c := Operand.tmp 119) (by kernel_rfl) rfl (fun hc119 => ?_) (fun hc119 => ?_)
              ·
                have hlt : a < n' := by have := of_decide_eq_true hc119; omega
                have hae : S9.val.getD a 0 = bs.getD a 0 := by rw [hv9, hbv a hlt]
                refine W_skip (by kernel_rfl) ?_
                refine W_seq (by kernel_rfl) ?_
                refine W_block 9 (by kernel_rfl) ?_
                refine W_seq (by kernel_rfl) ?_
                -- R37
                refine W_regQ (l := [⟨some 122, Op.move (Operand.tmp 5), 25, none⟩, ⟨some 123, Op.move (Operand.tmp 15), 3, none⟩, ⟨some 124, Op.call { callee := Callee.value (Operand.func 26), args := #[Operand.tmp 122, Operand.tmp 123], argTypes := #[25, 3] }, 45, none⟩, ⟨some 125, Op.move (Operand.tmp 9), 47, none⟩, ⟨some 126, Op.move (Operand.tmp 15), 3, none⟩, ⟨some 127, Op.indexAddr 47 (Operand.tmp 125) (Operand.tmp 126), 0, none⟩, ⟨some 128, Op.load 45 (Operand.tmp 127), 45, none⟩, ⟨some 129, Op.binOp BinOp.neq 45 (Operand.tmp 124) (Operand.tmp 128) 45, 4, none⟩]) mix (by kernel_rfl) (by kernel_rfl) (by kernel_rfl) ?_
                refine TQ_q rfl (QV_move rfl) ?_
                refine TQ_q rfl (QV_move rfl) ?_
                refine TQ_call (v := .int .i8 (S9.val.getD a 0)) rfl rfl rfl call26 ((truthOf w9 L n' D S9 _ lv9 qv9 h9 a hlt).mono (fun _ _ e => ⟨e.2, e.1⟩)) ?_
                refine TQ_q rfl (QV_move rfl) ?_
                refine TQ_q rfl (QV_move rfl) ?_
                refine TQ_q rfl (QV_idx1 rfl rfl el47 sz45 (hlt)) ?_
                refine TQ_q rfl (QV_load rfl one45 (hb9.c8 (by rw [hbl]; exact hlt))) ?_
                refine TQ_q rfl (QV_neq rfl rfl) ?_
                refine TQ_nil ?_
                refine W_cond (c := Operand.tmp 129) (by kernel_rfl) rfl (fun hc129 => ?_) (fun hc129 => ?_)
                ·
                  exact absurd hae (of_decide_eq_true hc129)
                ·
                  refine W_skip (by kernel_rfl) ?_
                  -- R36
                  refine W_reg (l := [⟨some 120, Op.move (Operand.tmp 15), 3, none⟩, ⟨some 121, Op.binOp BinOp.add 3 (Operand.tmp 120) (Operand.const (Value.int IntKind.i64 1)) 3, 3, none⟩, ⟨some 15, Op.assign (Operand.tmp 121), 3, none⟩]) (by kernel_rfl) (by kernel_rfl) ?_
                  refine TL_q rfl (QV_move rfl) ?_
                  refine TL_q rfl (QV_add (r := ((a + 1 : Nat) : Int)) rfl rfl (by omega) (by omega) (by omega)) ?_
                  refine TL_q rfl (QV_assign rfl) ?_
                  refine TL_nil ?_
                  exact ⟨a + 1, ⟨by omega, rfl⟩, ⟨rfl, rfl, rfl, rfl, trivial⟩, by omega⟩
              ·
                refine W_exit 8 (by kernel_rfl) ?_
                show T Try.prog 130 (C Try.f8 [1, 1, 1, 1, 1, 1, 1, 1, 1, 1, 1, 1, 1]) _ _ _
                refine W_seq (by kernel_rfl) ?_
                -- R39
                refine W_reg (l := [⟨some 4, Op.assign (Operand.const (Value.bool true)), 4, none⟩]) (by kernel_rfl) (by kernel_rfl) ?_
                refine TL_q rfl (QV_assign rfl) ?_
                refine TL_nil ?_
                refine W_ret (by kernel_rfl) ?_
                first
                  | exact ⟨_, rfl, rfl, Fr.refl _ _⟩
                  | exact ⟨_, rfl, rfl, f3⟩
                  | exact ⟨_, rfl, rfl, (((f3.trans f4).trans f5).step (Fr.trans (f6.mono (Y := fun g => L.s < g) (fun _ _ e => e.1)) (f9.mono (fun _ _ e => e.1))) (by have := f3.size; have := f4.size; have := f5.size; intro i hi _ e; omega))⟩

end Go.Proofs.Qxb6600121a
