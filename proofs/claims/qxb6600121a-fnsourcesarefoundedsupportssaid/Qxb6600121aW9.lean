/-
   Walks written by program (wip/gen).
-/
import Derived.Test.Qxb6600121aFin
import Derived.Test.Qxb6600121aW23
import Derived.Test.Qxb6600121aW12
import Derived.Test.Qxb6600121aW13
import Derived.Test.Qxb6600121aW14
import Derived.Test.Qxb6600121aW17
import Derived.Test.Qxb6600121aLaw9
import Derived.Test.Qxb6600121aSolQ
import Derived.Test.Qxb6600121aW18
namespace Go.Proofs.Qxb6600121a
open Go Go.Proofs
set_option linter.unusedVariables false
set_option linter.unusedSimpArgs false

structure P1S where
  E : List (Nat × Nat)
  cnt : List Int
  rev : List (List Nat)
structure P3S where
  cnt : List Int
  dn : List Nat
  st : List Nat
  sv : Value
structure P3T where
  cnt : List Int
  st : List Nat
  sv : Value

set_option maxRecDepth 10000 in
set_option maxHeartbeats 1000000 in
theorem sourcesLaw (w : World) (B : Nat → Prop) (n : Int) (v : Value) (rs : List RD) (hv : RulesAt w.heap B v rs) :
    CallsS Try.prog 9 #[.int .i64 n, v] w (fun r w' => r = .bool true ∧ Fr (fun _ => False) w w') := by
  refine W_fun [4] Try.func9 rfl Try.ntmps9 Try.results9 (Nat.le_of_ble_eq_true rfl) ?_
  refine W_seq (by kernel_rfl) ?_
  -- R0
  refine W_reg (l := [⟨some 4, Op.assign (Operand.const (Value.bool false)), 4, none⟩]) (by kernel_rfl) (by kernel_rfl) ?_
  refine TL_q rfl (QV_assign rfl) ?_
  refine TL_nil ?_
  refine W_seq (by kernel_rfl) ?_
  refine W_seq (by kernel_rfl) ?_
  -- R1
  refine W_reg (l := [⟨some 27, Op.move (Operand.tmp 0), 3, none⟩, ⟨some 28, Op.move (Operand.tmp 1), 22, none⟩, ⟨some 29, Op.call { callee := Callee.value (Operand.func 33), args := #[Operand.tmp 27, Operand.tmp 28], argTypes := #[3, 22] }, 4, none⟩, ⟨some 30, Op.unOp UnOp.not 4 (Operand.tmp 29), 4, none⟩]) (by kernel_rfl) (by kernel_rfl) ?_
  refine TL_q rfl (QV_move rfl) ?_
  refine TL_q rfl (QV_move rfl) ?_
  refine TL_e (EV_callD rfl rfl rfl call33 (bytes33 w B n v rs hv) fun r w1 hr => ?_)
  obtain ⟨hw1, b1, rfl, hb1⟩ := hr
  rw [hw1]
  clear hw1
  refine TL_q rfl (QV_not rfl) ?_
  refine TL_nil ?_
  refine W_cond (c := Operand.tmp 30) (by kernel_rfl) rfl (fun hc30 => ?_) (fun hc30 => ?_)
  ·
    refine W_seq (by kernel_rfl) ?_
    -- R2
    refine W_reg (l := [⟨some 4, Op.assign (Operand.const (Value.bool true)), 4, none⟩]) (by kernel_rfl) (by kernel_rfl) ?_
    refine TL_q rfl (QV_assign rfl) ?_
    refine TL_nil ?_
    refine W_ret (by kernel_rfl) ?_
    first
      | exact ⟨_, rfl, rfl, Fr.refl _ _⟩
      | exact ⟨_, rfl, rfl, f3⟩
      | exact ⟨_, rfl, congrArg Value.bool (decide_eq_true (by rw [hfin3])), (((((f3.trans f4).trans f5).step (f6.mono (Y := fun g => L.s < g) (fun _ _ e => e.1)) (by have := f3.size; have := f4.size; have := f5.size; intro i hi _ e; omega)).trans f8).trans hm.f).step hk3.f (by have := f3.size; have := f4.size; have := f5.size; have := f6.size; have := f8.size; intro i hi _ e; omega)⟩
  ·
    have hb1 := hb1 (by cases b1 <;> first | rfl | cases hc30)
    refine W_skip (by kernel_rfl) ?_
    refine W_seq (by kernel_rfl) ?_
    refine W_seq (by kernel_rfl) ?_
    -- R3
    refine W_reg (l := [⟨some 31, Op.move (Operand.tmp 0), 3, none⟩, ⟨some 32, Op.move (Operand.tmp 1), 22, none⟩, ⟨some 33, Op.call { callee := Callee.value (Operand.func 11), args := #[Operand.tmp 31, Operand.tmp 32], argTypes := #[3, 22] }, 4, none⟩, ⟨some 34, Op.unOp UnOp.not 4 (Operand.tmp 33), 4, none⟩]) (by kernel_rfl) (by kernel_rfl) ?_
    refine TL_q rfl (QV_move rfl) ?_
    refine TL_q rfl (QV_move rfl) ?_
    refine TL_e (EV_callD rfl rfl rfl call11 (sized w B n v rs hv) fun r w2 hr => ?_)
    obtain ⟨hw2, b2, rfl, hb2⟩ := hr
    rw [hw2]
    clear hw2
    refine TL_q rfl (QV_not rfl) ?_
    refine TL_nil ?_
    refine W_cond (c := Operand.tmp 34) (by kernel_rfl) rfl (fun hc34 => ?_) (fun hc34 => ?_)
    ·
      refine W_seq (by kernel_rfl) ?_
      -- R4
      refine W_reg (l := [⟨some 4, Op.assign (Operand.const (Value.bool true)), 4, none⟩]) (by kernel_rfl) (by kernel_rfl) ?_
      refine TL_q rfl (QV_assign rfl) ?_
      refine TL_nil ?_
      refine W_ret (by kernel_rfl) ?_
      first
        | exact ⟨_, rfl, rfl, Fr.refl _ _⟩
        | exact ⟨_, rfl, rfl, f3⟩
        | exact ⟨_, rfl, congrArg Value.bool (decide_eq_true (by rw [hfin3])), (((((f3.trans f4).trans f5).step (f6.mono (Y := fun g => L.s < g) (fun _ _ e => e.1)) (by have := f3.size; have := f4.size; have := f5.size; intro i hi _ e; omega)).trans f8).trans hm.f).step hk3.f (by have := f3.size; have := f4.size; have := f5.size; have := f6.size; have := f8.size; intro i hi _ e; omega)⟩
    ·
      have hb2 := hb2 (by cases b2 <;> first | rfl | cases hc34)
      obtain ⟨n', rfl⟩ := Int.eq_ofNat_of_zero_le hb2.1
      refine W_skip (by kernel_rfl) ?_
      refine W_seq (by kernel_rfl) ?_
      refine W_seq (by kernel_rfl) ?_
      -- R5
      refine W_reg (l := [⟨some 35, Op.move (Operand.tmp 0), 3, none⟩, ⟨some 36, Op.move (Operand.tmp 1), 22, none⟩, ⟨some 37, Op.call { callee := Callee.value (Operand.func 12), args := #[Operand.tmp 35, Operand.tmp 36], argTypes := #[3, 22] }, 4, none⟩, ⟨some 38, Op.unOp UnOp.not 4 (Operand.tmp 37), 4, none⟩]) (by kernel_rfl) (by kernel_rfl) ?_
      refine TL_q rfl (QV_move rfl) ?_
      refine TL_q rfl (QV_move rfl) ?_
      refine TL_e (EV_callD rfl rfl rfl call12 (inRange w B n' v rs hv hb1) fun r w3 hr => ?_)
      obtain ⟨f3, b3, rfl, hb3⟩ := hr
      refine TL_q rfl (QV_not rfl) ?_
      refine TL_nil ?_
      refine W_cond (c := Operand.tmp 38) (by kernel_rfl) rfl (fun hc38 => ?_) (fun hc38 => ?_)
      ·
        refine W_seq (by kernel_rfl) ?_
        -- R6
        refine W_reg (l := [⟨some 4, Op.assign (Operand.const (Value.bool true)), 4, none⟩]) (by kernel_rfl) (by kernel_rfl) ?_
        refine TL_q rfl (QV_assign rfl) ?_
        refine TL_nil ?_
        refine W_ret (by kernel_rfl) ?_
        first
          | exact ⟨_, rfl, rfl, Fr.refl _ _⟩
          | exact ⟨_, rfl, rfl, f3⟩
          | exact ⟨_, rfl, congrArg Value.bool (decide_eq_true (by rw [hfin3])), (((((f3.trans f4).trans f5).step (f6.mono (Y := fun g => L.s < g) (fun _ _ e => e.1)) (by have := f3.size; have := f4.size; have := f5.size; intro i hi _ e; omega)).trans f8).trans hm.f).step hk3.f (by have := f3.size; have := f4.size; have := f5.size; have := f6.size; have := f8.size; intro i hi _ e; omega)⟩
      ·
        have hb3 := hb3 (by cases b3 <;> first | rfl | cases hc38)
        obtain ⟨D, rfl, hok⟩ := plain_of hb3
        rw [List.length_map] at hb1
        refine W_skip (by kernel_rfl) ?_
        refine W_seq (by kernel_rfl) ?_
        -- R7
        refine W_reg (l := [⟨some 39, Op.move (Operand.tmp 1), 22, none⟩, ⟨some 40, Op.call { callee := Callee.value (Operand.func 13), args := #[Operand.tmp 39], argTypes := #[22] }, 22, none⟩, ⟨some 1, Op.assign (Operand.tmp 40), 22, none⟩]) (by kernel_rfl) (by kernel_rfl) ?_
        refine TL_q rfl (QV_move rfl) ?_
        refine TL_e (EV_callD rfl rfl rfl call13 (cloneRules w3 B v _ (hv.fr f3 (fun _ _ h => h)) (by rw [List.length_map]; exact hb1)) fun r w4 hr => ?_)
        obtain ⟨f4, hcl⟩ := hr
        refine TL_q rfl (QV_assign rfl) ?_
        refine TL_nil ?_
        refine W_seq (by kernel_rfl) ?_
        -- R8
        refine W_reg (l := [⟨some 41, Op.move (Operand.tmp 0), 3, none⟩, ⟨some 42, Op.move (Operand.tmp 1), 22, none⟩, ⟨some 43, Op.call { callee := Callee.value (Operand.func 14), args := #[Operand.tmp 41, Operand.tmp 42], argTypes := #[3, 22] }, 25, none⟩, ⟨some 5, Op.assign (Operand.tmp 43), 25, none⟩]) (by kernel_rfl) (by kernel_rfl) ?_
        refine TL_q rfl (QV_move rfl) ?_
        refine TL_q rfl (QV_move rfl) ?_
        refine TL_e (EV_callD rfl rfl rfl call14 (newSolver w4 _ (fun b hb => hb.2) n' r D hcl hok hb1 (by omega)) fun r2 w5 hr => ?_)
        obtain ⟨L, rfl, f5, hL1, hL2, hsol⟩ := hr
        refine TL_q rfl (QV_assign rfl) ?_
        refine TL_nil ?_
        refine W_seq (by kernel_rfl) ?_
        -- R9
        refine W_reg (l := [⟨some 45, Op.move (Operand.tmp 5), 25, none⟩, ⟨some 46, Op.move (Operand.tmp 0), 3, none⟩, ⟨some 47, Op.call { callee := Callee.value (Operand.func 24), args := #[Operand.tmp 45, Operand.tmp 46], argTypes := #[25, 3] }, 40, none⟩, ⟨some 44, Op.move (Operand.tmp 47), 40, none⟩, ⟨some 48, Op.extract (Operand.tmp 44) 0, 27, none⟩, ⟨some 49, Op.extract (Operand.tmp 44) 1, 27, none⟩, ⟨some 50, Op.extract (Operand.tmp 44) 2, 4, none⟩, ⟨some 6, Op.assign (Operand.tmp 48), 27, none⟩, ⟨some 7, Op.assign (Operand.tmp 49), 27, none⟩, ⟨some 8, Op.assign (Operand.tmp 50), 4, none⟩]) (by kernel_rfl) (by kernel_rfl) ?_
        refine TL_q rfl (QV_move rfl) ?_
        refine TL_q rfl (QV_move rfl) ?_
        refine TL_e (EV_callD rfl rfl rfl call24 (solveAll w5 L n' D _ (fun _ => False) nilS nilS (smf_start hsol) hok hb1 (by omega) _ (slvOf (tuTrue D n') hok hb1 (by omega))) fun r3 w6 hr => ?_)
        obtain ⟨av, ev, rfl, atoms, ends, hfin, S6, lv6, qv6, hrk, f6, Pr, -, hIA, hIE, h6⟩ := hr
        have hpart := hfin.part
        have hlen := hpart.len
        have hne := hfin.ne
        refine TL_q rfl (QV_move rfl) ?_
        refine TL_q rfl (QV_extract rfl rfl) ?_
        refine TL_q rfl (QV_extract rfl rfl) ?_
        refine TL_q rfl (QV_extract rfl rfl) ?_
        refine TL_q rfl (QV_assign rfl) ?_
        refine TL_q rfl (QV_assign rfl) ?_
        refine TL_q rfl (QV_assign rfl) ?_
        refine TL_nil ?_
        refine W_seq (by kernel_rfl) ?_
        refine W_seq (by kernel_rfl) ?_
        -- R10
        refine W_reg (l := [⟨some 51, Op.move (Operand.tmp 8), 4, none⟩, ⟨some 52, Op.unOp UnOp.not 4 (Operand.tmp 51), 4, none⟩]) (by kernel_rfl) (by kernel_rfl) ?_
        refine TL_q rfl (QV_move rfl) ?_
        refine TL_q rfl (QV_not rfl) ?_
        refine TL_nil ?_
        refine W_cond (c := Operand.tmp 52) (by kernel_rfl) rfl (fun hc52 => ?_) (fun hc52 => ?_)
        ·
          cases hc52
        ·
          refine W_skip (by kernel_rfl) ?_
          refine W_seq (by kernel_rfl) ?_
          -- R12
          refine W_reg (l := [⟨some 53, Op.move (Operand.tmp 0), 3, none⟩, ⟨some 54, Op.move (Operand.tmp 6), 27, none⟩, ⟨some 55, Op.move (Operand.tmp 7), 27, none⟩, ⟨some 56, Op.call { callee := Callee.value (Operand.func 18), args := #[Operand.tmp 53, Operand.tmp 54, Operand.tmp 55], argTypes := #[3, 27, 27] }, 27, none⟩, ⟨some 9, Op.assign (Operand.tmp 56), 27, none⟩]) (by kernel_rfl) (by kernel_rfl) ?_
          refine TL_q rfl (QV_move rfl) ?_
          refine TL_q rfl (QV_move rfl) ?_
          refine TL_q rfl (QV_move rfl) ?_
          refine TL_e (EV_callD rfl rfl rfl call18 (compOf w6 Pr n' (by omega) av ev atoms ends hIA hIE hpart (by omega)) fun r5 w8 hr5 => ?_)
          obtain ⟨f8, cs, hcsl, rfl, hcsb, hcs⟩ := hr5
          refine TL_q rfl (QV_assign rfl) ?_
          refine TL_nil ?_
          refine W_seq (by kernel_rfl) ?_
          -- R13
          refine W_reg (l := [⟨some 57, Op.move (Operand.tmp 0), 3, none⟩, ⟨some 58, Op.makeSlice 27 (Operand.tmp 57) (Operand.tmp 57), 27, none⟩, ⟨some 10, Op.assign (Operand.tmp 58), 27, none⟩]) (by kernel_rfl) (by kernel_rfl) ?_
          refine TL_q rfl (QV_move rfl) ?_
          refine TL_e (EV_make1 rfl rfl rfl el27 in3 rfl (by omega) (by omega) (by omega) fun w9 k9 => ?_)
          refine TL_q rfl (QV_assign rfl) ?_
          refine TL_nil ?_
          refine W_seq (by kernel_rfl) ?_
          -- R14
          refine W_reg (l := [⟨some 59, Op.move (Operand.tmp 0), 3, none⟩, ⟨some 60, Op.makeSlice 34 (Operand.tmp 59) (Operand.tmp 59), 34, none⟩, ⟨some 11, Op.assign (Operand.tmp 60), 34, none⟩]) (by kernel_rfl) (by kernel_rfl) ?_
          refine TL_q rfl (QV_move rfl) ?_
          refine TL_e (EV_make1 rfl rfl rfl el34 in27 rfl (by omega) (by omega) (by omega) fun wT kT => ?_)
          have z9 := k9.size
          have zT := kT.size
          rw [z9]
          have hm0 : P1M w8 wT w8.heap.size n' w8.heap.size (List.replicate n' 0) (List.replicate n' []) := by
            refine ⟨(k9.fr).newb kT, by omega, Nat.le_refl _, ?_, fun _ => (0, 0), List.replicate n' nilS, Tab.fresh ?_, fun b hb g hg => ?_⟩
            · have := k9.blk.fr kT.fr (fun e => e)
              rw [ints_rep] at this
              exact this
            · have := kT.blk
              rw [z9] at this
              exact this
            · have e1 : (List.replicate n' nilS).getD b nilS = nilS := getD_rep _ _ _
              rw [e1] at hg; cases hg
          have h8s := h6.keep f8
          have hrules := ((hcl.fr f5 (fun _ _ h => h)).fr f6 (fun b hb e => by have := e.1; have := hb.2; omega)).fr f8 (fun _ _ h => h)
          obtain ⟨ra, rc, rfl, hrcap, hrul⟩ := hrules.nat
          obtain ⟨ρ, hfd⟩ := hrk.1.founded hok hpart hcs
          refine TL_q rfl (QV_assign rfl) ?_
          refine TL_nil ?_
          refine W_seq (by kernel_rfl) ?_
          -- R15
          refine W_reg (l := [⟨some 12, Op.assign (Operand.const (Value.int IntKind.i64 0)), 3, none⟩]) (by kernel_rfl) (by kernel_rfl) ?_
          refine TL_q rfl (QV_assign rfl) ?_
          refine TL_nil ?_
          refine W_seq (by kernel_rfl) ?_
          refine W_seq (by kernel_rfl) ?_
          -- R16
          refine W_reg (l := [⟨some 13, Op.assign (Operand.const (Value.int IntKind.i64 0)), 3, none⟩]) (by kernel_rfl) (by kernel_rfl) ?_
          refine TL_q rfl (QV_assign rfl) ?_
          refine TL_nil ?_
          refine W_block 0 (by kernel_rfl) ?_
          refine W_loop (ι := Nat × P1S) (fun i w9 => i.1 ≤ n' ∧ Edg n' S6.val ρ i.2.E i.2.cnt i.2.rev ∧ i.2.E.length ≤ capM i.1 ∧ P1M w8 w9 w8.heap.size n' w8.heap.size i.2.cnt i.2.rev) (fun i => [(0, .int .i64 (n' : Int)), (1, .slice ra D.length rc), (5, .pointer (some ⟨L.s + 9, 0, none⟩)), (9, .slice (some ⟨w6.heap.size, 0, none⟩) n' n'), (10, .slice (some ⟨w8.heap.size, 0, none⟩) n' n'), (11, .slice (some ⟨w8.heap.size + 1, 0, none⟩) n' n'), (12, .int .i64 (((undN S6.val i.1).length : Nat) : Int)), (13, .int .i64 (i.1 : Int))]) (fun i => n' - i.1) (0, ⟨[], List.replicate n' 0, List.replicate n' []⟩) (by kernel_rfl) ?_ ?_ ?_
          · exact ⟨Nat.zero_le _, edg0, Nat.zero_le _, hm0⟩
          · exact ⟨rfl, rfl, rfl, rfl, rfl, rfl, rfl, rfl, trivial⟩
          rintro ⟨a, E, cnt, rev⟩ w9 ⟨ha, hE, hEl, hm⟩
          dsimp only at ha hE hEl hm ⊢
          have hcap : capM a ≤ 68719476736 := by unfold capM; omega
          have hcap2 := capM_succ a
          refine W_seq (by kernel_rfl) ?_
          refine W_seq (by kernel_rfl) ?_
          -- R17
          refine W_reg (l := [⟨some 61, Op.move (Operand.tmp 13), 3, none⟩, ⟨some 62, Op.move (Operand.tmp 0), 3, none⟩, ⟨some 63, Op.binOp BinOp.lss 3 (Operand.tmp 61) (Operand.tmp 62) 3, 4, none⟩]) (by kernel_rfl) (by kernel_rfl) ?_
          refine TL_q rfl (QV_move rfl) ?_
          refine TL_q rfl (QV_move rfl) ?_
          refine TL_q rfl (QV_lss rfl rfl) ?_
          refine TL_nil ?_
          refine W_cond (c := Operand.tmp 63) (by kernel_rfl) rfl (fun hc63 => ?_) (fun hc63 => ?_)
          ·
            have hlt : a < n' := by have := of_decide_eq_true hc63; omega
            have hs9 := h8s.keep hm.f
            have hul2 := undN_len (vs := S6.val) (a + 1)
            have hul3 := undN_len (vs := S6.val) a
            refine W_skip (by kernel_rfl) ?_
            refine W_seq (by kernel_rfl) ?_
            refine W_block 1 (by kernel_rfl) ?_
            refine W_seq (by kernel_rfl) ?_
            refine W_seq (by kernel_rfl) ?_
            -- R19
            refine W_reg (l := [⟨some 66, Op.move (Operand.tmp 5), 25, none⟩, ⟨some 67, Op.move (Operand.tmp 13), 3, none⟩, ⟨some 68, Op.call { callee := Callee.value (Operand.func 26), args := #[Operand.tmp 66, Operand.tmp 67], argTypes := #[25, 3] }, 45, none⟩, ⟨some 69, Op.binOp BinOp.neq 45 (Operand.tmp 68) (Operand.const (Value.int IntKind.i8 1)) 45, 4, none⟩]) (by kernel_rfl) (by kernel_rfl) ?_
            refine TL_q rfl (QV_move rfl) ?_
            refine TL_q rfl (QV_move rfl) ?_
            refine TL_e (EV_callD rfl rfl rfl call26 (truthOf w9 L n' D S6 _ lv6 qv6 hs9 a hlt) fun r10 w10 hr10 => ?_)
            obtain ⟨hw10, rfl⟩ := hr10
            rw [hw10]
            clear hw10
            refine TL_q rfl (QV_neq rfl rfl) ?_
            refine TL_nil ?_
            refine W_cond (c := Operand.tmp 69) (by kernel_rfl) rfl (fun hc69 => ?_) (fun hc69 => ?_)
            ·
              have hno : ¬ S6.val.getD a 0 = 1 := of_decide_eq_true hc69
              refine W_exit 1 (by kernel_rfl) ?_
              show T Try.prog 214 (C Try.f9 [1, 1, 0, 0, 1, 0, 1, 1, 1, 1, 1, 1, 1, 1, 1, 1, 1, 1]) _ _ _
              -- R18
              refine W_reg (l := [⟨some 64, Op.move (Operand.tmp 13), 3, none⟩, ⟨some 65, Op.binOp BinOp.add 3 (Operand.tmp 64) (Operand.const (Value.int IntKind.i64 1)) 3, 3, none⟩, ⟨some 13, Op.assign (Operand.tmp 65), 3, none⟩]) (by kernel_rfl) (by kernel_rfl) ?_
              refine TL_q rfl (QV_move rfl) ?_
              refine TL_q rfl (QV_add (r := ((a + 1 : Nat) : Int)) rfl rfl (by omega) (by omega) (by omega)) ?_
              refine TL_q rfl (QV_assign rfl) ?_
              refine TL_nil ?_
              first
                | exact ⟨(a + 1, ⟨E14, cnt14, rev14⟩), ⟨by omega, hE14, (by show E14.length ≤ capM (a + 1); omega), hm14.re _ (.inr (by omega))⟩, ⟨rfl, rfl, rfl, rfl, rfl, rfl, rfl, rfl, trivial⟩, by show n' - (a + 1) < n' - a; omega⟩
                | exact ⟨(a + 1, ⟨E, cnt, rev⟩), ⟨by omega, hE, (by show E.length ≤ capM (a + 1); omega), hm⟩, ⟨rfl, rfl, rfl, rfl, rfl, rfl, sint (by rw [undN_no hno]), rfl, trivial⟩, by show n' - (a + 1) < n' - a; omega⟩
            ·
              have hv1 : S6.val.getD a 0 = 1 := Decidable.not_not.1 (of_decide_eq_false hc69)
              have hul : (undN S6.val (a + 1)).length = (undN S6.val a).length + 1 := by rw [undN_yes hv1]; simp
              obtain ⟨r, hs1, hr, hh, hna, hall0, hunl2, hrank⟩ := hfd a hlt hv1
              obtain ⟨rb, ro, rfl, hrB, hrc2⟩ := hrul (by omega)
              obtain ⟨g1, va, vu, g2, g3, ga, gu⟩ := hrc2 r hr
              obtain ⟨aa2, ca2, rfl, hca2, hal⟩ := ga.nat
              obtain ⟨au, cu, rfl, hcu, hun⟩ := gu.nat
              have hoks := hok _ (getD_mem rl0 hr)
              have htd := totD D r hr
              have htl := tot_take_le (D.map Rl.rd) (r + 1)
              refine W_skip (by kernel_rfl) ?_
              refine W_seq (by kernel_rfl) ?_
              -- R20
              refine W_reg (l := [⟨some 70, Op.move (Operand.tmp 12), 3, none⟩, ⟨some 71, Op.binOp BinOp.add 3 (Operand.tmp 70) (Operand.const (Value.int IntKind.i64 1)) 3, 3, none⟩, ⟨some 12, Op.assign (Operand.tmp 71), 3, none⟩]) (by kernel_rfl) (by kernel_rfl) ?_
              refine TL_q rfl (QV_move rfl) ?_
              refine TL_q rfl (QV_add (r := (((undN S6.val (a + 1)).length : Nat) : Int)) rfl rfl (by omega) (by omega) (by omega)) ?_
              refine TL_q rfl (QV_assign rfl) ?_
              refine TL_nil ?_
              refine W_seq (by kernel_rfl) ?_
              -- R21
              refine W_reg (l := [⟨some 72, Op.move (Operand.tmp 5), 25, none⟩, ⟨some 73, Op.move (Operand.tmp 13), 3, none⟩, ⟨some 74, Op.call { callee := Callee.value (Operand.func 32), args := #[Operand.tmp 72, Operand.tmp 73], argTypes := #[25, 3] }, 3, none⟩, ⟨some 14, Op.assign (Operand.tmp 74), 3, none⟩]) (by kernel_rfl) (by kernel_rfl) ?_
              refine TL_q rfl (QV_move rfl) ?_
              refine TL_q rfl (QV_move rfl) ?_
              refine TL_e (EV_callD rfl rfl rfl call32 (sourceOf w9 L n' D S6 _ lv6 qv6 hs9 a hlt) fun r11 w11 hr11 => ?_)
              obtain ⟨hw11, rfl⟩ := hr11
              rw [hw11, hs1]
              clear hw11
              refine TL_q rfl (QV_assign rfl) ?_
              refine TL_nil ?_
              refine W_seq (by kernel_rfl) ?_
              refine W_seq (by kernel_rfl) ?_
              -- R22
              refine W_reg (l := [⟨some 75, Op.move (Operand.tmp 14), 3, none⟩, ⟨some 76, Op.binOp BinOp.lss 3 (Operand.tmp 75) (Operand.const (Value.int IntKind.i64 0)) 3, 4, none⟩, ⟨some 77, Op.move (Operand.tmp 76), 4, none⟩, ⟨some 78, Op.move (Operand.tmp 14), 3, some (2, false)⟩, ⟨some 79, Op.move (Operand.tmp 1), 22, some (2, false)⟩, ⟨some 80, Op.call { callee := Callee.builtin Builtin.len, args := #[Operand.tmp 79], argTypes := #[22] }, 3, some (2, false)⟩, ⟨some 81, Op.binOp BinOp.geq 3 (Operand.tmp 78) (Operand.tmp 80) 3, 4, some (2, false)⟩, ⟨some 82, Op.pick (Operand.tmp 77) (Operand.const (Value.bool true)) (Operand.tmp 81), 4, none⟩]) (by kernel_rfl) (by kernel_rfl) ?_
              refine TL_q rfl (QV_move rfl) ?_
              refine TL_q rfl (QV_lss rfl rfl) ?_
              refine TL_q rfl (QV_move rfl) ?_
              refine TL_cases (t := 77) rfl (fun hb77 => ?_) (fun hb77 => ?_)
              ·
                exact absurd (of_decide_eq_true hb77) (by omega)
              ·
                refine TL_gq rfl rfl rfl rfl (QV_move rfl) ?_
                refine TL_gq rfl rfl rfl rfl (QV_move rfl) ?_
                refine TL_gq rfl rfl rfl rfl (QV_len rfl el22) ?_
                refine TL_gq rfl rfl rfl rfl (QV_geq rfl rfl) ?_
                refine TL_q rfl (QV_pickF rfl rfl) ?_
                refine TL_nil ?_
                refine W_cond (c := Operand.tmp 82) (by kernel_rfl) rfl (fun hc82 => ?_) (fun hc82 => ?_)
                ·
                  exact absurd (of_decide_eq_true hc82) (by omega)
                ·
                  refine W_skip (by kernel_rfl) ?_
                  refine W_seq (by kernel_rfl) ?_
                  -- R24
                  refine W_reg (l := [⟨some 83, Op.move (Operand.tmp 1), 22, none⟩, ⟨some 84, Op.move (Operand.tmp 14), 3, none⟩, ⟨some 85, Op.indexAddr 22 (Operand.tmp 83) (Operand.tmp 84), 0, none⟩, ⟨some 86, Op.load 33 (Operand.tmp 85), 33, none⟩, ⟨some 15, Op.alloc 33, 0, none⟩, ⟨none, Op.store 33 (Operand.tmp 15) (Operand.tmp 86), 0, none⟩]) (by kernel_rfl) (by kernel_rfl) ?_
                  refine TL_q rfl (QV_move rfl) ?_
                  refine TL_q rfl (QV_move rfl) ?_
                  refine TL_q rfl (QV_idx rfl rfl el22 sz33 (hr)) ?_
                  refine TL_q rfl (QV_load3 rfl Try.underlying33 sz33 (cel_fr g1 hm.f (fun h => h)) (cel_fr g2 hm.f (fun h => h)) (cel_fr g3 hm.f (fun h => h))) ?_
                  refine TL_e (EV_alloc rfl in33 fun w12 k12 => ?_)
                  have hb12 : Blk w12.heap w9.heap.size 33 [.int .i64 0, .slice none 0 0, .slice none 0 0] := k12.blk
                  refine TL_e (EV_store3 rfl rfl rfl rfl rfl sz33 hb12 (by decide) fun w13 u13 => ?_)
                  have hb13 : Blk w13.heap w9.heap.size 33 [.int .i64 (((D.getD r rl0).head : Nat) : Int), .slice aa2 (D.getD r rl0).all.length ca2, .slice au (D.getD r rl0).unl.length cu] := u13.blk
                  have f13 : Fr (fun _ => False) w9 w13 := k12.fr.upd u13 (Nat.le_refl _)
                  have hz9 := hm.z
                  have hsz13 : w9.heap.size < w13.heap.size := by have := k12.size; have := u13.size; omega
                  have hm13 : P1M w8 w13 w8.heap.size n' w9.heap.size cnt rev := (hm.re w9.heap.size (.inl (Nat.le_refl _))).fr f13
                  refine TL_nil ?_
                  refine W_seq (by kernel_rfl) ?_
                  refine W_seq (by kernel_rfl) ?_
                  -- R25
                  refine W_reg (l := [⟨some 87, Op.fieldAddr 33 (Operand.tmp 15) 0, 0, none⟩, ⟨some 88, Op.load 3 (Operand.tmp 87), 3, none⟩, ⟨some 89, Op.move (Operand.tmp 13), 3, none⟩, ⟨some 90, Op.binOp BinOp.neq 3 (Operand.tmp 88) (Operand.tmp 89) 3, 4, none⟩]) (by kernel_rfl) (by kernel_rfl) ?_
                  refine TL_q rfl (QV_field0 rfl fld33_0) ?_
                  refine TL_q rfl (QV_load rfl one3 (by rw [hb13.cel]; rfl)) ?_
                  refine TL_q rfl (QV_move rfl) ?_
                  refine TL_q rfl (QV_neq rfl rfl) ?_
                  refine TL_nil ?_
                  refine W_cond (c := Operand.tmp 90) (by kernel_rfl) rfl (fun hc90 => ?_) (fun hc90 => ?_)
                  ·
                    exact absurd (by rw [hh]) (of_decide_eq_true hc90)
                  ·
                    refine W_skip (by kernel_rfl) ?_
                    refine W_seq (by kernel_rfl) ?_
                    refine W_seq (by kernel_rfl) ?_
                    -- R27
                    refine W_reg (l := [⟨some 91, Op.fieldAddr 33 (Operand.tmp 15) 1, 0, none⟩, ⟨some 92, Op.load 27 (Operand.tmp 91), 27, none⟩, ⟨some 93, Op.call { callee := Callee.builtin Builtin.len, args := #[Operand.tmp 92], argTypes := #[27] }, 3, none⟩, ⟨some 94, Op.move (Operand.const (Value.int IntKind.i64 0)), 3, none⟩]) (by kernel_rfl) (by kernel_rfl) ?_
                    refine TL_q rfl (QV_field rfl fld33_1) ?_
                    refine TL_q rfl (QV_load rfl one27 (by rw [hb13.cel]; rfl)) ?_
                    refine TL_q rfl (QV_len rfl el27) ?_
                    refine TL_q rfl (QV_move rfl) ?_
                    refine TL_nil ?_
                    refine W_block 2 (by kernel_rfl) ?_
                    refine W_loop (ι := Nat × P1S) (fun j w14 => j.1 ≤ (D.getD r rl0).all.length ∧ Edg n' S6.val ρ j.2.E j.2.cnt j.2.rev ∧ j.2.E.length ≤ capM a + j.1 ∧ P1M w8 w14 w8.heap.size n' w9.heap.size j.2.cnt j.2.rev ∧ Blk w14.heap w9.heap.size 33 [.int .i64 (((D.getD r rl0).head : Nat) : Int), .slice aa2 (D.getD r rl0).all.length ca2, .slice au (D.getD r rl0).unl.length cu]) (fun j => [(0, .int .i64 (n' : Int)), (1, .slice (some ⟨rb, ro, none⟩) D.length rc), (5, .pointer (some ⟨L.s + 9, 0, none⟩)), (9, .slice (some ⟨w6.heap.size, 0, none⟩) n' n'), (10, .slice (some ⟨w8.heap.size, 0, none⟩) n' n'), (11, .slice (some ⟨w8.heap.size + 1, 0, none⟩) n' n'), (12, .int .i64 (((undN S6.val (a + 1)).length : Nat) : Int)), (13, .int .i64 (a : Int)), (15, .pointer (some ⟨w9.heap.size, 0, none⟩)), (92, .slice aa2 (D.getD r rl0).all.length ca2), (93, .int .i64 ((D.getD r rl0).all.length : Nat)), (94, .int .i64 (j.1 : Int))]) (fun j => (D.getD r rl0).all.length - j.1) (0, ⟨E, cnt, rev⟩) (by kernel_rfl) ?_ ?_ ?_
                    · exact ⟨Nat.zero_le _, hE, Nat.le_trans hEl (Nat.le_add_right _ _), hm13, hb13⟩
                    · exact ⟨rfl, rfl, rfl, rfl, rfl, rfl, rfl, rfl, rfl, rfl, rfl, rfl, trivial⟩
                    rintro ⟨j, E14, cnt14, rev14⟩ w14 ⟨hj, hE14, hEl14, hm14, hb14⟩
                    dsimp only at hj hE14 hEl14 hm14 hb14 ⊢
                    refine W_seq (by kernel_rfl) ?_
                    -- R28
                    refine W_reg (l := [⟨some 95, Op.binOp BinOp.lss 3 (Operand.tmp 94) (Operand.tmp 93) 3, 0, none⟩]) (by kernel_rfl) (by kernel_rfl) ?_
                    refine TL_q rfl (QV_lss rfl rfl) ?_
                    refine TL_nil ?_
                    refine W_seq (by kernel_rfl) ?_
                    refine W_cond (c := Operand.tmp 95) (by kernel_rfl) rfl (fun hc95 => ?_) (fun hc95 => ?_)
                    ·
                      have hjl : j < (D.getD r rl0).all.length := by have := of_decide_eq_true hc95; omega
                      obtain ⟨b2, o2, rfl, hb2B, hc2⟩ := hal (by omega)
                      have hdm := getD_mem 0 hjl
                      have hdn := hoks.2.1 _ hdm
                      have hs14 := h8s.keep hm14.f
                      refine W_skip (by kernel_rfl) ?_
                      refine W_seq (by kernel_rfl) ?_
                      refine W_block 3 (by kernel_rfl) ?_
                      refine W_seq (by kernel_rfl) ?_
                      -- R29
                      refine W_reg (l := [⟨some 96, Op.indexAddr 27 (Operand.tmp 92) (Operand.tmp 94), 0, none⟩, ⟨some 97, Op.load 3 (Operand.tmp 96), 3, none⟩, ⟨some 17, Op.assign (Operand.tmp 97), 3, none⟩]) (by kernel_rfl) (by kernel_rfl) ?_
                      refine TL_q rfl (QV_idxO rfl rfl el27 sz3 (hjl)) ?_
                      refine TL_q rfl (QV_load rfl one3 (cel_fr (hc2 j hjl) hm14.f (fun h => h))) ?_
                      refine TL_q rfl (QV_assign rfl) ?_
                      refine TL_nil ?_
                      refine W_seq (by kernel_rfl) ?_
                      -- R30
                      refine W_reg (l := [⟨some 98, Op.move (Operand.tmp 5), 25, none⟩, ⟨some 99, Op.move (Operand.tmp 17), 3, none⟩, ⟨some 100, Op.call { callee := Callee.value (Operand.func 26), args := #[Operand.tmp 98, Operand.tmp 99], argTypes := #[25, 3] }, 45, none⟩, ⟨some 18, Op.assign (Operand.tmp 100), 45, none⟩]) (by kernel_rfl) (by kernel_rfl) ?_
                      refine TL_q rfl (QV_move rfl) ?_
                      refine TL_q rfl (QV_move rfl) ?_
                      refine TL_e (EV_callD rfl rfl rfl call26 (truthOf w14 L n' D S6 _ lv6 qv6 hs14 _ hdn) fun r15 w15 hr15 => ?_)
                      obtain ⟨hw15, rfl⟩ := hr15
                      rw [hw15]
                      clear hw15
                      refine TL_q rfl (QV_assign rfl) ?_
                      refine TL_nil ?_
                      refine W_seq (by kernel_rfl) ?_
                      refine W_seq (by kernel_rfl) ?_
                      -- R31
                      refine W_reg (l := [⟨some 101, Op.move (Operand.tmp 17), 3, none⟩, ⟨some 102, Op.move (Operand.tmp 13), 3, none⟩, ⟨some 103, Op.binOp BinOp.eql 3 (Operand.tmp 101) (Operand.tmp 102) 3, 4, none⟩, ⟨some 104, Op.move (Operand.tmp 103), 4, none⟩, ⟨some 105, Op.move (Operand.tmp 18), 45, some (3, false)⟩, ⟨some 106, Op.binOp BinOp.eql 45 (Operand.tmp 105) (Operand.const (Value.int IntKind.i8 0)) 45, 4, some (3, false)⟩, ⟨some 107, Op.pick (Operand.tmp 104) (Operand.const (Value.bool true)) (Operand.tmp 106), 4, none⟩]) (by kernel_rfl) (by kernel_rfl) ?_
                      refine TL_q rfl (QV_move rfl) ?_
                      refine TL_q rfl (QV_move rfl) ?_
                      refine TL_q rfl (QV_eql rfl rfl) ?_
                      refine TL_q rfl (QV_move rfl) ?_
                      refine TL_cases (t := 104) rfl (fun hb104 => ?_) (fun hb104 => ?_)
                      ·
                        have h9 := of_decide_eq_true hb104
                        have e : ((D.getD r rl0).all.getD j 0) = a := by omega
                        rw [e] at hdm
                        exact absurd hdm hna
                      ·
                        refine TL_gq rfl rfl rfl rfl (QV_move rfl) ?_
                        refine TL_gq rfl rfl rfl rfl (QV_eql rfl rfl) ?_
                        refine TL_q rfl (QV_pickF rfl rfl) ?_
                        refine TL_nil ?_
                        refine W_cond (c := Operand.tmp 107) (by kernel_rfl) rfl (fun hc107 => ?_) (fun hc107 => ?_)
                        ·
                          exact absurd (of_decide_eq_true hc107) (hall0 _ hdm)
                        ·
                          refine W_skip (by kernel_rfl) ?_
                          refine W_seq (by kernel_rfl) ?_
                          -- R33
                          refine W_regQ (l := [⟨some 108, Op.move (Operand.tmp 18), 45, none⟩, ⟨some 109, Op.binOp BinOp.eql 45 (Operand.tmp 108) (Operand.const (Value.int IntKind.i8 1)) 45, 4, none⟩, ⟨some 110, Op.move (Operand.tmp 109), 4, none⟩, ⟨some 111, Op.move (Operand.tmp 9), 27, some (2, true)⟩, ⟨some 112, Op.move (Operand.tmp 17), 3, some (2, true)⟩, ⟨some 113, Op.indexAddr 27 (Operand.tmp 111) (Operand.tmp 112), 0, some (2, true)⟩, ⟨some 114, Op.load 3 (Operand.tmp 113), 3, some (2, true)⟩, ⟨some 115, Op.move (Operand.tmp 9), 27, some (2, true)⟩, ⟨some 116, Op.move (Operand.tmp 13), 3, some (2, true)⟩, ⟨some 117, Op.indexAddr 27 (Operand.tmp 115) (Operand.tmp 116), 0, some (2, true)⟩, ⟨some 118, Op.load 3 (Operand.tmp 117), 3, some (2, true)⟩, ⟨some 119, Op.binOp BinOp.eql 3 (Operand.tmp 114) (Operand.tmp 118) 3, 4, some (2, true)⟩, ⟨some 120, Op.pick (Operand.tmp 110) (Operand.tmp 119) (Operand.const (Value.bool false)), 4, none⟩]) mix (by kernel_rfl) (by kernel_rfl) (by kernel_rfl) ?_
                          refine TQ_q rfl (QV_move rfl) ?_
                          refine TQ_q rfl (QV_eql rfl rfl) ?_
                          refine TQ_q rfl (QV_move rfl) ?_
                          refine TQ_cases (t := 110) rfl (fun hb110 => ?_) (fun hb110 => ?_)
                          ·
                            have hvb := of_decide_eq_true hb110
                            refine TQ_gq rfl rfl rfl rfl (QV_move rfl) ?_
                            refine TQ_gq rfl rfl rfl rfl (QV_move rfl) ?_
                            refine TQ_gq rfl rfl rfl rfl (QV_idx1 rfl rfl el27 sz3 (hdn)) ?_
                            refine TQ_gq rfl rfl rfl rfl (QV_load rfl one3 ((hcsb.fr hm14.f (fun e => e)).cN (by rw [hcsl]; exact hdn))) ?_
                            refine TQ_gq rfl rfl rfl rfl (QV_move rfl) ?_
                            refine TQ_gq rfl rfl rfl rfl (QV_move rfl) ?_
                            refine TQ_gq rfl rfl rfl rfl (QV_idx1 rfl rfl el27 sz3 (hlt)) ?_
                            refine TQ_gq rfl rfl rfl rfl (QV_load rfl one3 ((hcsb.fr hm14.f (fun e => e)).cN (by rw [hcsl]; exact hlt))) ?_
                            refine TQ_gq rfl rfl rfl rfl (QV_eql rfl rfl) ?_
                            refine TQ_q rfl (QV_pickT rfl rfl) ?_
                            refine TQ_nil ?_
                            refine W_cond (c := Operand.tmp 120) (by kernel_rfl) rfl (fun hc120 => ?_) (fun hc120 => ?_)
                            ·
                              have hce : cs.getD ((D.getD r rl0).all.getD j 0) 0 = cs.getD a 0 := by have := of_decide_eq_true hc120; omega
                              have hE2 := hE14.add hlt hdn hv1 hvb (hrank _ hdm hvb hce)
                              have hcn := hE14.c a hlt
                              have hinl := inE_le E14 a
                              have hol : (rev14.getD ((D.getD r rl0).all.getD j 0) []).length ≤ E14.length := by rw [hE14.r _ hdn]; exact outE_le _ _
                              refine W_seq (by kernel_rfl) ?_
                              -- R34
                              refine W_reg (l := [⟨some 121, Op.move (Operand.tmp 10), 27, none⟩, ⟨some 122, Op.move (Operand.tmp 13), 3, none⟩, ⟨some 123, Op.indexAddr 27 (Operand.tmp 121) (Operand.tmp 122), 0, none⟩, ⟨some 124, Op.load 3 (Operand.tmp 123), 3, none⟩, ⟨some 125, Op.binOp BinOp.add 3 (Operand.tmp 124) (Operand.const (Value.int IntKind.i64 1)) 3, 3, none⟩, ⟨some 126, Op.indexAddr 27 (Operand.tmp 121) (Operand.tmp 122), 0, none⟩, ⟨none, Op.store 3 (Operand.tmp 126) (Operand.tmp 125), 0, none⟩]) (by kernel_rfl) (by kernel_rfl) ?_
                              refine TL_q rfl (QV_move rfl) ?_
                              refine TL_q rfl (QV_move rfl) ?_
                              refine TL_q rfl (QV_idx1 rfl rfl el27 sz3 (hlt)) ?_
                              refine TL_q rfl (QV_load rfl one3 (hm14.bc.cI (by rw [hE14.clen]; exact hlt))) ?_
                              refine TL_q rfl (QV_add (r := (cnt14.getD a 0 + 1 : Int)) rfl rfl (by omega) (by omega) (by omega)) ?_
                              refine TL_q rfl (QV_idx1 rfl rfl el27 sz3 (hlt)) ?_
                              refine TL_e (EV_store rfl rfl rfl sz3 hm14.bc (by rw [ints_len, hE14.clen]; exact hlt) fun w16 u16 => ?_)
                              have u16b : Upd w14 w16 w8.heap.size 3 (ints (cnt14.set a (cnt14.getD a 0 + 1))) := by rw [← ints_set]; exact u16
                              have hm16 := hm14.inc u16b
                              have hb16 := hb14.fr u16.fr (by omega)
                              have hz16 := u16.size
                              have hp14 := hb14.lt
                              obtain ⟨own, vs, ht, hnp⟩ := hm16.t
                              refine TL_nil ?_
                              -- R35
                              refine W_reg (l := [⟨some 127, Op.move (Operand.tmp 11), 34, none⟩, ⟨some 128, Op.move (Operand.tmp 17), 3, none⟩, ⟨some 129, Op.move (Operand.tmp 11), 34, none⟩, ⟨some 130, Op.move (Operand.tmp 17), 3, none⟩, ⟨some 131, Op.indexAddr 34 (Operand.tmp 129) (Operand.tmp 130), 0, none⟩, ⟨some 132, Op.load 27 (Operand.tmp 131), 27, none⟩, ⟨some 133, Op.move (Operand.tmp 13), 3, none⟩, ⟨some 134, Op.buildSlice 27 1 #[(0, Operand.tmp 133)], 27, none⟩, ⟨some 135, Op.call { callee := Callee.builtin Builtin.append, args := #[Operand.tmp 132, Operand.tmp 134], argTypes := #[27, 27] }, 27, none⟩, ⟨some 136, Op.indexAddr 34 (Operand.tmp 127) (Operand.tmp 128), 0, none⟩, ⟨none, Op.store 27 (Operand.tmp 136) (Operand.tmp 135), 0, none⟩]) (by kernel_rfl) (by kernel_rfl) ?_
                              refine TL_q rfl (QV_move rfl) ?_
                              refine TL_q rfl (QV_move rfl) ?_
                              refine TL_q rfl (QV_move rfl) ?_
                              refine TL_q rfl (QV_move rfl) ?_
                              refine TL_q rfl (QV_idx1 rfl rfl el34 sz27 (hdn)) ?_
                              refine TL_q rfl (QV_load rfl one27 (ht.cel hdn)) ?_
                              refine TL_q rfl (QV_move rfl) ?_
                              refine TL_e (EV_lit1 rfl rfl rfl el27 in3 rfl fun x2 hx2 => ?_)
                              refine TL_e (EV_append rfl rfl rfl el27 in3 rfl (by decide) ((ht.row _ hdn).fr hx2.fr (fun _ _ h => h)) rfl (news1 hx2.blk) (one1 rfl) (by omega) (by omega) fun v' x3 hrow h23 hat => ?_)
                              obtain ⟨a', c', rfl, -⟩ := hrow.form
                              refine TL_q rfl (QV_idx1 rfl rfl el34 sz27 (hdn)) ?_
                              refine TL_e (EV_store rfl rfl rfl sz27 ((ht.blk.fr hx2.fr (fun h => h)).fr h23 (fun e => by have := (ht.own _ hdn _ e).2; omega)) (by rw [ht.len]; exact hdn) fun x4 h34 => ?_)
                              have hm17 := hm16.push ht hnp (by omega) hdn hx2 hrow h23 hat h34
                              have hb17 := hm16.pushB ht hnp hdn (by omega) hb16 hx2 h23 h34
                              refine TL_nil ?_
                              -- R36
                              refine W_reg (l := [⟨some 137, Op.binOp BinOp.add 3 (Operand.tmp 94) (Operand.const (Value.int IntKind.i64 1)) 3, 3, none⟩, ⟨some 94, Op.move (Operand.tmp 137), 3, none⟩]) (by kernel_rfl) (by kernel_rfl) ?_
                              refine TL_q rfl (QV_add (r := ((j + 1 : Nat) : Int)) rfl rfl (by omega) (by omega) (by omega)) ?_
                              refine TL_q rfl (QV_move rfl) ?_
                              refine TL_nil ?_
                              first
                                | exact ⟨(j + 1, ⟨E14 ++ [(((D.getD r rl0).all.getD j 0), a)], cnt14.set a (cnt14.getD a 0 + 1), addTo rev14 ((D.getD r rl0).all.getD j 0) a⟩), ⟨by omega, hE2, (by show (E14 ++ [(((D.getD r rl0).all.getD j 0), a)]).length ≤ capM a + (j + 1); rw [List.length_append, List.length_singleton]; omega), hm17, hb17⟩, ⟨rfl, rfl, rfl, rfl, rfl, rfl, rfl, rfl, rfl, rfl, rfl, rfl, trivial⟩, by show (D.getD r rl0).all.length - (j + 1) < (D.getD r rl0).all.length - j; omega⟩
                                | exact ⟨(j + 1, ⟨E14, cnt14, rev14⟩), ⟨by omega, hE14, (by show E14.length ≤ capM a + (j + 1); omega), hm14, hb14⟩, ⟨rfl, rfl, rfl, rfl, rfl, rfl, rfl, rfl, rfl, rfl, rfl, rfl, trivial⟩, by show (D.getD r rl0).all.length - (j + 1) < (D.getD r rl0).all.length - j; omega⟩
                            ·
                              refine W_skip (by kernel_rfl) ?_
                              -- R36
                              refine W_reg (l := [⟨some 137, Op.binOp BinOp.add 3 (Operand.tmp 94) (Operand.const (Value.int IntKind.i64 1)) 3, 3, none⟩, ⟨some 94, Op.move (Operand.tmp 137), 3, none⟩]) (by kernel_rfl) (by kernel_rfl) ?_
                              refine TL_q rfl (QV_add (r := ((j + 1 : Nat) : Int)) rfl rfl (by omega) (by omega) (by omega)) ?_
                              refine TL_q rfl (QV_move rfl) ?_
                              refine TL_nil ?_
                              first
                                | exact ⟨(j + 1, ⟨E14 ++ [(((D.getD r rl0).all.getD j 0), a)], cnt14.set a (cnt14.getD a 0 + 1), addTo rev14 ((D.getD r rl0).all.getD j 0) a⟩), ⟨by omega, hE2, (by show (E14 ++ [(((D.getD r rl0).all.getD j 0), a)]).length ≤ capM a + (j + 1); rw [List.length_append, List.length_singleton]; omega), hm17, hb17⟩, ⟨rfl, rfl, rfl, rfl, rfl, rfl, rfl, rfl, rfl, rfl, rfl, rfl, trivial⟩, by show (D.getD r rl0).all.length - (j + 1) < (D.getD r rl0).all.length - j; omega⟩
                                | exact ⟨(j + 1, ⟨E14, cnt14, rev14⟩), ⟨by omega, hE14, (by show E14.length ≤ capM a + (j + 1); omega), hm14, hb14⟩, ⟨rfl, rfl, rfl, rfl, rfl, rfl, rfl, rfl, rfl, rfl, rfl, rfl, trivial⟩, by show (D.getD r rl0).all.length - (j + 1) < (D.getD r rl0).all.length - j; omega⟩
                          ·
                            refine TQ_gs rfl rfl rfl rfl ?_
                            refine TQ_gs rfl rfl rfl rfl ?_
                            refine TQ_gs rfl rfl rfl rfl ?_
                            refine TQ_gs rfl rfl rfl rfl ?_
                            refine TQ_gs rfl rfl rfl rfl ?_
                            refine TQ_gs rfl rfl rfl rfl ?_
                            refine TQ_gs rfl rfl rfl rfl ?_
                            refine TQ_gs rfl rfl rfl rfl ?_
                            refine TQ_gs rfl rfl rfl rfl ?_
                            refine TQ_q rfl (QV_pickF rfl rfl) ?_
                            refine TQ_nil ?_
                            refine W_condF (c := Operand.tmp 120) (by kernel_rfl) rfl ?_
                            refine W_skip (by kernel_rfl) ?_
                            -- R36
                            refine W_reg (l := [⟨some 137, Op.binOp BinOp.add 3 (Operand.tmp 94) (Operand.const (Value.int IntKind.i64 1)) 3, 3, none⟩, ⟨some 94, Op.move (Operand.tmp 137), 3, none⟩]) (by kernel_rfl) (by kernel_rfl) ?_
                            refine TL_q rfl (QV_add (r := ((j + 1 : Nat) : Int)) rfl rfl (by omega) (by omega) (by omega)) ?_
                            refine TL_q rfl (QV_move rfl) ?_
                            refine TL_nil ?_
                            first
                              | exact ⟨(j + 1, ⟨E14 ++ [(((D.getD r rl0).all.getD j 0), a)], cnt14.set a (cnt14.getD a 0 + 1), addTo rev14 ((D.getD r rl0).all.getD j 0) a⟩), ⟨by omega, hE2, (by show (E14 ++ [(((D.getD r rl0).all.getD j 0), a)]).length ≤ capM a + (j + 1); rw [List.length_append, List.length_singleton]; omega), hm17, hb17⟩, ⟨rfl, rfl, rfl, rfl, rfl, rfl, rfl, rfl, rfl, rfl, rfl, rfl, trivial⟩, by show (D.getD r rl0).all.length - (j + 1) < (D.getD r rl0).all.length - j; omega⟩
                              | exact ⟨(j + 1, ⟨E14, cnt14, rev14⟩), ⟨by omega, hE14, (by show E14.length ≤ capM a + (j + 1); omega), hm14, hb14⟩, ⟨rfl, rfl, rfl, rfl, rfl, rfl, rfl, rfl, rfl, rfl, rfl, rfl, trivial⟩, by show (D.getD r rl0).all.length - (j + 1) < (D.getD r rl0).all.length - j; omega⟩
                    ·
                      refine W_exit 2 (by kernel_rfl) ?_
                      show T Try.prog 214 (C Try.f9 [1, 1, 1, 1, 1, 1, 1, 0, 0, 1, 0, 0, 1, 0, 1, 1, 1, 1, 1, 1, 1, 1, 1, 1, 1, 1]) _ _ _
                      refine W_seq (by kernel_rfl) ?_
                      -- R37
                      refine W_reg (l := [⟨some 138, Op.fieldAddr 33 (Operand.tmp 15) 2, 0, none⟩, ⟨some 139, Op.load 27 (Operand.tmp 138), 27, none⟩, ⟨some 140, Op.call { callee := Callee.builtin Builtin.len, args := #[Operand.tmp 139], argTypes := #[27] }, 3, none⟩, ⟨some 141, Op.move (Operand.const (Value.int IntKind.i64 0)), 3, none⟩]) (by kernel_rfl) (by kernel_rfl) ?_
                      refine TL_q rfl (QV_field rfl fld33_2) ?_
                      refine TL_q rfl (QV_load rfl one27 (by rw [hb14.cel]; rfl)) ?_
                      refine TL_q rfl (QV_len rfl el27) ?_
                      refine TL_q rfl (QV_move rfl) ?_
                      refine TL_nil ?_
                      refine W_block 4 (by kernel_rfl) ?_
                      refine W_loop (fun (j : Nat) w15 => j ≤ (D.getD r rl0).unl.length ∧ w14 = w15) (fun j => [(0, .int .i64 (n' : Int)), (1, .slice (some ⟨rb, ro, none⟩) D.length rc), (5, .pointer (some ⟨L.s + 9, 0, none⟩)), (9, .slice (some ⟨w6.heap.size, 0, none⟩) n' n'), (10, .slice (some ⟨w8.heap.size, 0, none⟩) n' n'), (11, .slice (some ⟨w8.heap.size + 1, 0, none⟩) n' n'), (12, .int .i64 (((undN S6.val (a + 1)).length : Nat) : Int)), (13, .int .i64 (a : Int)), (139, .slice au (D.getD r rl0).unl.length cu), (140, .int .i64 ((D.getD r rl0).unl.length : Nat)), (141, .int .i64 (j : Int))]) (fun j => (D.getD r rl0).unl.length - j) 0 (by kernel_rfl) ?_ ?_ ?_
                      · exact ⟨Nat.zero_le _, rfl⟩
                      · exact ⟨rfl, rfl, rfl, rfl, rfl, rfl, rfl, rfl, rfl, rfl, rfl, trivial⟩
                      rintro jj w15 ⟨hjj, rfl⟩
                      refine W_seq (by kernel_rfl) ?_
                      -- R38
                      refine W_reg (l := [⟨some 142, Op.binOp BinOp.lss 3 (Operand.tmp 141) (Operand.tmp 140) 3, 0, none⟩]) (by kernel_rfl) (by kernel_rfl) ?_
                      refine TL_q rfl (QV_lss rfl rfl) ?_
                      refine TL_nil ?_
                      refine W_seq (by kernel_rfl) ?_
                      refine W_cond (c := Operand.tmp 142) (by kernel_rfl) rfl (fun hc142 => ?_) (fun hc142 => ?_)
                      ·
                        have hjl : jj < (D.getD r rl0).unl.length := by have := of_decide_eq_true hc142; omega
                        obtain ⟨b2, o2, rfl, hb2B, hc2⟩ := hun (by omega)
                        have hdm := getD_mem 0 hjl
                        have hdn := hoks.2.2 _ hdm
                        have hs14 := h8s.keep hm14.f
                        refine W_skip (by kernel_rfl) ?_
                        refine W_seq (by kernel_rfl) ?_
                        refine W_block 5 (by kernel_rfl) ?_
                        refine W_seq (by kernel_rfl) ?_
                        -- R39
                        refine W_reg (l := [⟨some 143, Op.indexAddr 27 (Operand.tmp 139) (Operand.tmp 141), 0, none⟩, ⟨some 144, Op.load 3 (Operand.tmp 143), 3, none⟩, ⟨some 20, Op.assign (Operand.tmp 144), 3, none⟩]) (by kernel_rfl) (by kernel_rfl) ?_
                        refine TL_q rfl (QV_idxO rfl rfl el27 sz3 (hjl)) ?_
                        refine TL_q rfl (QV_load rfl one3 (cel_fr (hc2 jj hjl) hm14.f (fun h => h))) ?_
                        refine TL_q rfl (QV_assign rfl) ?_
                        refine TL_nil ?_
                        refine W_seq (by kernel_rfl) ?_
                        -- R40
                        refine W_reg (l := [⟨some 145, Op.move (Operand.tmp 5), 25, none⟩, ⟨some 146, Op.move (Operand.tmp 20), 3, none⟩, ⟨some 147, Op.call { callee := Callee.value (Operand.func 26), args := #[Operand.tmp 145, Operand.tmp 146], argTypes := #[25, 3] }, 45, none⟩, ⟨some 148, Op.binOp BinOp.eql 45 (Operand.tmp 147) (Operand.const (Value.int IntKind.i8 2)) 45, 4, none⟩]) (by kernel_rfl) (by kernel_rfl) ?_
                        refine TL_q rfl (QV_move rfl) ?_
                        refine TL_q rfl (QV_move rfl) ?_
                        refine TL_e (EV_callD rfl rfl rfl call26 (truthOf w14 L n' D S6 _ lv6 qv6 hs14 _ hdn) fun r15 w15 hr15 => ?_)
                        obtain ⟨hw15, rfl⟩ := hr15
                        rw [hw15]
                        clear hw15
                        refine TL_q rfl (QV_eql rfl rfl) ?_
                        refine TL_nil ?_
                        refine W_cond (c := Operand.tmp 148) (by kernel_rfl) rfl (fun hc148 => ?_) (fun hc148 => ?_)
                        ·
                          exact absurd (of_decide_eq_true hc148) (hunl2 _ hdm)
                        ·
                          refine W_skip (by kernel_rfl) ?_
                          -- R42
                          refine W_reg (l := [⟨some 149, Op.binOp BinOp.add 3 (Operand.tmp 141) (Operand.const (Value.int IntKind.i64 1)) 3, 3, none⟩, ⟨some 141, Op.move (Operand.tmp 149), 3, none⟩]) (by kernel_rfl) (by kernel_rfl) ?_
                          refine TL_q rfl (QV_add (r := ((jj + 1 : Nat) : Int)) rfl rfl (by omega) (by omega) (by omega)) ?_
                          refine TL_q rfl (QV_move rfl) ?_
                          refine TL_nil ?_
                          exact ⟨jj + 1, ⟨by omega, rfl⟩, ⟨rfl, rfl, rfl, rfl, rfl, rfl, rfl, rfl, rfl, rfl, rfl, trivial⟩, by omega⟩
                      ·
                        refine W_exit 4 (by kernel_rfl) ?_
                        show T Try.prog 214 (C Try.f9 [1, 1, 0, 0, 1, 0, 1, 1, 1, 1, 1, 1, 1, 1, 1, 1, 1, 1]) _ _ _
                        -- R18
                        refine W_reg (l := [⟨some 64, Op.move (Operand.tmp 13), 3, none⟩, ⟨some 65, Op.binOp BinOp.add 3 (Operand.tmp 64) (Operand.const (Value.int IntKind.i64 1)) 3, 3, none⟩, ⟨some 13, Op.assign (Operand.tmp 65), 3, none⟩]) (by kernel_rfl) (by kernel_rfl) ?_
                        refine TL_q rfl (QV_move rfl) ?_
                        refine TL_q rfl (QV_add (r := ((a + 1 : Nat) : Int)) rfl rfl (by omega) (by omega) (by omega)) ?_
                        refine TL_q rfl (QV_assign rfl) ?_
                        refine TL_nil ?_
                        first
                          | exact ⟨(a + 1, ⟨E14, cnt14, rev14⟩), ⟨by omega, hE14, (by show E14.length ≤ capM (a + 1); omega), hm14.re _ (.inr (by omega))⟩, ⟨rfl, rfl, rfl, rfl, rfl, rfl, rfl, rfl, trivial⟩, by show n' - (a + 1) < n' - a; omega⟩
                          | exact ⟨(a + 1, ⟨E, cnt, rev⟩), ⟨by omega, hE, (by show E.length ≤ capM (a + 1); omega), hm⟩, ⟨rfl, rfl, rfl, rfl, rfl, rfl, sint (by rw [undN_no hno]), rfl, trivial⟩, by show n' - (a + 1) < n' - a; omega⟩
          ·
            have hae : a = n' := by have := of_decide_eq_false hc63; omega
            have hT : TblAt w9.heap (fun g => w8.heap.size < g ∧ g < w9.heap.size) (.slice (some ⟨w8.heap.size + 1, 0, none⟩) n' n') n' rev := by
              obtain ⟨own, vs, ht, -⟩ := hm.t
              have := hm.z
              exact ht.at ⟨by omega, by omega⟩ (fun g h1 h2 => ⟨by omega, h2⟩)
            obtain ⟨tb, htv, htb, htab⟩ := hT
            have htbe : w8.heap.size + 1 = tb := by injection htv with e1; injection e1 with e2; injection e2
            subst htbe
            have hk0 : KM w9 w9 w8.heap.size cnt nilS [] := ⟨Fr.refl _ _, by have := hm.z; omega, hm.bc, Row.nil _ _ _, fun g hg => by cases hg⟩
            have hEl2 : E.length ≤ 68719476736 := by omega
            refine W_exit 0 (by kernel_rfl) ?_
            show T Try.prog 214 (C Try.f9 [1, 1, 1, 1, 1, 1, 1, 1, 1, 1, 1, 1, 1]) _ _ _
            refine W_seq (by kernel_rfl) ?_
            -- R43
            refine W_reg (l := [⟨some 21, Op.assign (Operand.const (Value.slice none 0 0)), 27, none⟩]) (by kernel_rfl) (by kernel_rfl) ?_
            refine TL_q rfl (QV_assign rfl) ?_
            refine TL_nil ?_
            refine W_seq (by kernel_rfl) ?_
            refine W_seq (by kernel_rfl) ?_
            -- R44
            refine W_reg (l := [⟨some 22, Op.assign (Operand.const (Value.int IntKind.i64 0)), 3, none⟩]) (by kernel_rfl) (by kernel_rfl) ?_
            refine TL_q rfl (QV_assign rfl) ?_
            refine TL_nil ?_
            refine W_block 6 (by kernel_rfl) ?_
            refine W_loop (ι := Nat × Value) (fun i w10 => i.1 ≤ n' ∧ KM w9 w10 w8.heap.size cnt i.2 (stk S6.val cnt i.1)) (fun i => [(0, .int .i64 (n' : Int)), (5, .pointer (some ⟨L.s + 9, 0, none⟩)), (10, .slice (some ⟨w8.heap.size, 0, none⟩) n' n'), (11, .slice (some ⟨w8.heap.size + 1, 0, none⟩) n' n'), (12, .int .i64 (((undN S6.val n').length : Nat) : Int)), (21, i.2), (22, .int .i64 (i.1 : Int))]) (fun i => n' - i.1) (0, nilS) (by kernel_rfl) ?_ ?_ ?_
            · exact ⟨Nat.zero_le _, hk0⟩
            · exact ⟨rfl, rfl, rfl, rfl, sint (by rw [hae]), rfl, rfl, trivial⟩
            rintro ⟨i, sv⟩ w10 ⟨hi, hk⟩
            dsimp only at hi hk ⊢
            refine W_seq (by kernel_rfl) ?_
            refine W_seq (by kernel_rfl) ?_
            -- R45
            refine W_reg (l := [⟨some 150, Op.move (Operand.tmp 22), 3, none⟩, ⟨some 151, Op.move (Operand.tmp 0), 3, none⟩, ⟨some 152, Op.binOp BinOp.lss 3 (Operand.tmp 150) (Operand.tmp 151) 3, 4, none⟩]) (by kernel_rfl) (by kernel_rfl) ?_
            refine TL_q rfl (QV_move rfl) ?_
            refine TL_q rfl (QV_move rfl) ?_
            refine TL_q rfl (QV_lss rfl rfl) ?_
            refine TL_nil ?_
            refine W_cond (c := Operand.tmp 152) (by kernel_rfl) rfl (fun hc152 => ?_) (fun hc152 => ?_)
            ·
              have hlt : i < n' := by have := of_decide_eq_true hc152; omega
              have hs10 := h8s.keep (hm.f.step hk.f (fun i hi _ e => by omega))
              have hstl := stk_len (vs := S6.val) (cnt := cnt) i
              obtain ⟨sa, sc, rfl, hsc⟩ := hk.r.form
              refine W_skip (by kernel_rfl) ?_
              refine W_seq (by kernel_rfl) ?_
              refine W_block 7 (by kernel_rfl) ?_
              refine W_seq (by kernel_rfl) ?_
              -- R47
              refine W_reg (l := [⟨some 155, Op.move (Operand.tmp 5), 25, none⟩, ⟨some 156, Op.move (Operand.tmp 22), 3, none⟩, ⟨some 157, Op.call { callee := Callee.value (Operand.func 26), args := #[Operand.tmp 155, Operand.tmp 156], argTypes := #[25, 3] }, 45, none⟩, ⟨some 158, Op.binOp BinOp.eql 45 (Operand.tmp 157) (Operand.const (Value.int IntKind.i8 1)) 45, 4, none⟩, ⟨some 159, Op.move (Operand.tmp 158), 4, none⟩, ⟨some 160, Op.move (Operand.tmp 10), 27, some (4, true)⟩, ⟨some 161, Op.move (Operand.tmp 22), 3, some (4, true)⟩, ⟨some 162, Op.indexAddr 27 (Operand.tmp 160) (Operand.tmp 161), 0, some (4, true)⟩, ⟨some 163, Op.load 3 (Operand.tmp 162), 3, some (4, true)⟩, ⟨some 164, Op.binOp BinOp.eql 3 (Operand.tmp 163) (Operand.const (Value.int IntKind.i64 0)) 3, 4, some (4, true)⟩, ⟨some 165, Op.pick (Operand.tmp 159) (Operand.tmp 164) (Operand.const (Value.bool false)), 4, none⟩]) (by kernel_rfl) (by kernel_rfl) ?_
              refine TL_q rfl (QV_move rfl) ?_
              refine TL_q rfl (QV_move rfl) ?_
              refine TL_e (EV_callD rfl rfl rfl call26 (truthOf w10 L n' D S6 _ lv6 qv6 hs10 i hlt) fun r15 w15 hr15 => ?_)
              obtain ⟨hw15, rfl⟩ := hr15
              rw [hw15]
              clear hw15
              refine TL_q rfl (QV_eql rfl rfl) ?_
              refine TL_q rfl (QV_move rfl) ?_
              refine TL_cases (t := 159) rfl (fun hb159 => ?_) (fun hb159 => ?_)
              ·
                have hv1 := of_decide_eq_true hb159
                refine TL_gq rfl rfl rfl rfl (QV_move rfl) ?_
                refine TL_gq rfl rfl rfl rfl (QV_move rfl) ?_
                refine TL_gq rfl rfl rfl rfl (QV_idx1 rfl rfl el27 sz3 (hlt)) ?_
                refine TL_gq rfl rfl rfl rfl (QV_load rfl one3 (hk.bc.cI (by rw [hE.clen]; exact hlt))) ?_
                refine TL_gq rfl rfl rfl rfl (QV_eql rfl rfl) ?_
                refine TL_q rfl (QV_pickT rfl rfl) ?_
                refine TL_nil ?_
                refine W_cond (c := Operand.tmp 165) (by kernel_rfl) rfl (fun hc165 => ?_) (fun hc165 => ?_)
                ·
                  have hz := of_decide_eq_true hc165
                  -- R48
                  refine W_reg (l := [⟨some 166, Op.move (Operand.tmp 21), 27, none⟩, ⟨some 167, Op.move (Operand.tmp 22), 3, none⟩, ⟨some 168, Op.buildSlice 27 1 #[(0, Operand.tmp 167)], 27, none⟩, ⟨some 169, Op.call { callee := Callee.builtin Builtin.append, args := #[Operand.tmp 166, Operand.tmp 168], argTypes := #[27, 27] }, 27, none⟩, ⟨some 21, Op.assign (Operand.tmp 169), 27, none⟩]) (by kernel_rfl) (by kernel_rfl) ?_
                  refine TL_q rfl (QV_move rfl) ?_
                  refine TL_q rfl (QV_move rfl) ?_
                  refine TL_e (EV_lit1 rfl rfl rfl el27 in3 rfl fun w11 k11 => ?_)
                  refine TL_e (EV_append rfl rfl rfl el27 in3 rfl (by decide) (hk.r.fr k11.fr (fun _ _ h => h)) rfl (news1 k11.blk) (one1 rfl) (by omega) (by omega) fun v12 w12 hrow h23 hat => ?_)
                  have hk12 := hk.push k11 hrow h23 hat
                  rw [← stk_yes hv1 hz] at hk12
                  refine TL_q rfl (QV_assign rfl) ?_
                  refine TL_nil ?_
                  -- R46
                  refine W_reg (l := [⟨some 153, Op.move (Operand.tmp 22), 3, none⟩, ⟨some 154, Op.binOp BinOp.add 3 (Operand.tmp 153) (Operand.const (Value.int IntKind.i64 1)) 3, 3, none⟩, ⟨some 22, Op.assign (Operand.tmp 154), 3, none⟩]) (by kernel_rfl) (by kernel_rfl) ?_
                  refine TL_q rfl (QV_move rfl) ?_
                  refine TL_q rfl (QV_add (r := ((i + 1 : Nat) : Int)) rfl rfl (by omega) (by omega) (by omega)) ?_
                  refine TL_q rfl (QV_assign rfl) ?_
                  refine TL_nil ?_
                  first
                    | exact ⟨(i + 1, v12), ⟨by omega, hk12⟩, ⟨rfl, rfl, rfl, rfl, rfl, rfl, rfl, trivial⟩, by show n' - (i + 1) < n' - i; omega⟩
                    | exact ⟨(i + 1, .slice sa (stk S6.val cnt i).length sc), ⟨by omega, by rw [stk_no hno]; exact hk⟩, ⟨rfl, rfl, rfl, rfl, rfl, rfl, rfl, trivial⟩, by show n' - (i + 1) < n' - i; omega⟩
                ·
                  have hno : ¬ (S6.val.getD i 0 = 1 ∧ cnt.getD i 0 = 0) := fun e => of_decide_eq_false hc165 e.2
                  refine W_skip (by kernel_rfl) ?_
                  -- R46
                  refine W_reg (l := [⟨some 153, Op.move (Operand.tmp 22), 3, none⟩, ⟨some 154, Op.binOp BinOp.add 3 (Operand.tmp 153) (Operand.const (Value.int IntKind.i64 1)) 3, 3, none⟩, ⟨some 22, Op.assign (Operand.tmp 154), 3, none⟩]) (by kernel_rfl) (by kernel_rfl) ?_
                  refine TL_q rfl (QV_move rfl) ?_
                  refine TL_q rfl (QV_add (r := ((i + 1 : Nat) : Int)) rfl rfl (by omega) (by omega) (by omega)) ?_
                  refine TL_q rfl (QV_assign rfl) ?_
                  refine TL_nil ?_
                  first
                    | exact ⟨(i + 1, v12), ⟨by omega, hk12⟩, ⟨rfl, rfl, rfl, rfl, rfl, rfl, rfl, trivial⟩, by show n' - (i + 1) < n' - i; omega⟩
                    | exact ⟨(i + 1, .slice sa (stk S6.val cnt i).length sc), ⟨by omega, by rw [stk_no hno]; exact hk⟩, ⟨rfl, rfl, rfl, rfl, rfl, rfl, rfl, trivial⟩, by show n' - (i + 1) < n' - i; omega⟩
              ·
                have hno : ¬ (S6.val.getD i 0 = 1 ∧ cnt.getD i 0 = 0) := fun e => of_decide_eq_false hb159 e.1
                refine TL_gs rfl rfl rfl rfl ?_
                refine TL_gs rfl rfl rfl rfl ?_
                refine TL_gs rfl rfl rfl rfl ?_
                refine TL_gs rfl rfl rfl rfl ?_
                refine TL_gs rfl rfl rfl rfl ?_
                refine TL_q rfl (QV_pickF rfl rfl) ?_
                refine TL_nil ?_
                refine W_condF (c := Operand.tmp 165) (by kernel_rfl) rfl ?_
                refine W_skip (by kernel_rfl) ?_
                -- R46
                refine W_reg (l := [⟨some 153, Op.move (Operand.tmp 22), 3, none⟩, ⟨some 154, Op.binOp BinOp.add 3 (Operand.tmp 153) (Operand.const (Value.int IntKind.i64 1)) 3, 3, none⟩, ⟨some 22, Op.assign (Operand.tmp 154), 3, none⟩]) (by kernel_rfl) (by kernel_rfl) ?_
                refine TL_q rfl (QV_move rfl) ?_
                refine TL_q rfl (QV_add (r := ((i + 1 : Nat) : Int)) rfl rfl (by omega) (by omega) (by omega)) ?_
                refine TL_q rfl (QV_assign rfl) ?_
                refine TL_nil ?_
                first
                  | exact ⟨(i + 1, v12), ⟨by omega, hk12⟩, ⟨rfl, rfl, rfl, rfl, rfl, rfl, rfl, trivial⟩, by show n' - (i + 1) < n' - i; omega⟩
                  | exact ⟨(i + 1, .slice sa (stk S6.val cnt i).length sc), ⟨by omega, by rw [stk_no hno]; exact hk⟩, ⟨rfl, rfl, rfl, rfl, rfl, rfl, rfl, trivial⟩, by show n' - (i + 1) < n' - i; omega⟩
            ·
              have hie : i = n' := by have := of_decide_eq_false hc152; omega
              have hkk : KM w9 w10 w8.heap.size cnt sv (stk S6.val cnt n') := by rw [hie] at hk; exact hk
              have hka := kah0 hE
              refine W_exit 6 (by kernel_rfl) ?_
              show T Try.prog 214 (C Try.f9 [1, 1, 1, 1, 1, 1, 1, 1, 1, 1, 1, 1, 1, 1, 1]) _ _ _
              refine W_seq (by kernel_rfl) ?_
              -- R49
              refine W_reg (l := [⟨some 23, Op.assign (Operand.const (Value.int IntKind.i64 0)), 3, none⟩]) (by kernel_rfl) (by kernel_rfl) ?_
              refine TL_q rfl (QV_assign rfl) ?_
              refine TL_nil ?_
              refine W_seq (by kernel_rfl) ?_
              refine W_block 8 (by kernel_rfl) ?_
              refine W_loop (ι := P3S) (fun i w11 => Kah n' S6.val E i.cnt i.dn i.st [] ∧ KM w9 w11 w8.heap.size i.cnt i.sv i.st) (fun i => [(10, .slice (some ⟨w8.heap.size, 0, none⟩) n' n'), (11, .slice (some ⟨w8.heap.size + 1, 0, none⟩) n' n'), (12, .int .i64 (((undN S6.val n').length : Nat) : Int)), (21, i.sv), (23, .int .i64 ((i.dn.length : Nat) : Int))]) (fun i => n' - i.dn.length) ⟨cnt, [], stk S6.val cnt n', sv⟩ (by kernel_rfl) ?_ ?_ ?_
              · exact ⟨hka, hkk⟩
              · exact ⟨rfl, rfl, rfl, rfl, rfl, trivial⟩
              rintro ⟨cn, dn, st, sv3⟩ w11 ⟨hka3, hk3⟩
              dsimp only at hka3 hk3 ⊢
              obtain ⟨sa, sc, rfl, hsc⟩ := hk3.r.form
              have hkl := hka3.len
              refine W_seq (by kernel_rfl) ?_
              refine W_seq (by kernel_rfl) ?_
              -- R50
              refine W_reg (l := [⟨some 170, Op.move (Operand.tmp 21), 27, none⟩, ⟨some 171, Op.call { callee := Callee.builtin Builtin.len, args := #[Operand.tmp 170], argTypes := #[27] }, 3, none⟩, ⟨some 172, Op.binOp BinOp.gtr 3 (Operand.tmp 171) (Operand.const (Value.int IntKind.i64 0)) 3, 4, none⟩]) (by kernel_rfl) (by kernel_rfl) ?_
              refine TL_q rfl (QV_move rfl) ?_
              refine TL_q rfl (QV_len rfl el27) ?_
              refine TL_q rfl (QV_gtr rfl rfl) ?_
              refine TL_nil ?_
              refine W_cond (c := Operand.tmp 172) (by kernel_rfl) rfl (fun hc172 => ?_) (fun hc172 => ?_)
              ·
                have hpos : 0 < st.length := by have := of_decide_eq_true hc172; omega
                obtain ⟨q, b, hqr⟩ := eq_snoc hpos
                subst hqr
                have hql : (q ++ [b]).length = q.length + 1 := by simp
                have hdl : (dn ++ [b]).length = dn.length + 1 := by simp
                have hk3b := hk3
                have hrr := hk3.r
                rw [hql] at hk3b hrr
                obtain ⟨sg3, rfl, hsc2, htop⟩ := hrr.last
                have hk4 := hk3b.pop
                have hka4 : Kah n' S6.val E cn (dn ++ [b]) q ((outE E b).drop 0) := hka3.pop hE.e
                have hbn := (hka3.x b (by simp)).1
                obtain ⟨va, hva, hints⟩ := htab b hbn
                rw [hE.r b hbn] at hints
                obtain ⟨qa, qc, rfl, hqc, hrow⟩ := hints.nat
                have hole := outE_le E b
                refine W_skip (by kernel_rfl) ?_
                refine W_block 9 (by kernel_rfl) ?_
                refine W_seq (by kernel_rfl) ?_
                -- R51
                refine W_reg (l := [⟨some 173, Op.move (Operand.tmp 21), 27, none⟩, ⟨some 174, Op.move (Operand.tmp 21), 27, none⟩, ⟨some 175, Op.call { callee := Callee.builtin Builtin.len, args := #[Operand.tmp 174], argTypes := #[27] }, 3, none⟩, ⟨some 176, Op.binOp BinOp.sub 3 (Operand.tmp 175) (Operand.const (Value.int IntKind.i64 1)) 3, 3, none⟩, ⟨some 177, Op.indexAddr 27 (Operand.tmp 173) (Operand.tmp 176), 0, none⟩, ⟨some 178, Op.load 3 (Operand.tmp 177), 3, none⟩, ⟨some 24, Op.assign (Operand.tmp 178), 3, none⟩]) (by kernel_rfl) (by kernel_rfl) ?_
                refine TL_q rfl (QV_move rfl) ?_
                refine TL_q rfl (QV_move rfl) ?_
                refine TL_q rfl (QV_len rfl el27) ?_
                refine TL_q rfl (QV_sub (r := ((q.length : Nat) : Int)) rfl rfl (by omega) (by omega) (by omega)) ?_
                refine TL_q rfl (QV_idx1 rfl rfl el27 sz3 (by omega)) ?_
                refine TL_q rfl (QV_load rfl one3 (htop)) ?_
                refine TL_q rfl (QV_assign rfl) ?_
                refine TL_nil ?_
                refine W_seq (by kernel_rfl) ?_
                -- R52
                refine W_reg (l := [⟨some 179, Op.move (Operand.tmp 21), 27, none⟩, ⟨some 180, Op.move (Operand.tmp 21), 27, none⟩, ⟨some 181, Op.call { callee := Callee.builtin Builtin.len, args := #[Operand.tmp 180], argTypes := #[27] }, 3, none⟩, ⟨some 182, Op.binOp BinOp.sub 3 (Operand.tmp 181) (Operand.const (Value.int IntKind.i64 1)) 3, 3, none⟩, ⟨some 183, Op.slice 27 (Operand.tmp 179) none (some (Operand.tmp 182)) none, 27, none⟩, ⟨some 21, Op.assign (Operand.tmp 183), 27, none⟩]) (by kernel_rfl) (by kernel_rfl) ?_
                refine TL_q rfl (QV_move rfl) ?_
                refine TL_q rfl (QV_move rfl) ?_
                refine TL_q rfl (QV_len rfl el27) ?_
                refine TL_q rfl (QV_sub (r := ((q.length : Nat) : Int)) rfl rfl (by omega) (by omega) (by omega)) ?_
                refine TL_q rfl (QV_sliceTo rfl rfl el27 sz3 (by omega)) ?_
                refine TL_q rfl (QV_assign rfl) ?_
                refine TL_nil ?_
                refine W_seq (by kernel_rfl) ?_
                -- R53
                refine W_reg (l := [⟨some 184, Op.move (Operand.tmp 23), 3, none⟩, ⟨some 185, Op.binOp BinOp.add 3 (Operand.tmp 184) (Operand.const (Value.int IntKind.i64 1)) 3, 3, none⟩, ⟨some 23, Op.assign (Operand.tmp 185), 3, none⟩]) (by kernel_rfl) (by kernel_rfl) ?_
                refine TL_q rfl (QV_move rfl) ?_
                refine TL_q rfl (QV_add (r := (((dn ++ [b]).length : Nat) : Int)) rfl rfl (by omega) (by omega) (by omega)) ?_
                refine TL_q rfl (QV_assign rfl) ?_
                refine TL_nil ?_
                refine W_seq (by kernel_rfl) ?_
                -- R54
                refine W_reg (l := [⟨some 186, Op.move (Operand.tmp 11), 34, none⟩, ⟨some 187, Op.move (Operand.tmp 24), 3, none⟩, ⟨some 188, Op.indexAddr 34 (Operand.tmp 186) (Operand.tmp 187), 0, none⟩, ⟨some 189, Op.load 27 (Operand.tmp 188), 27, none⟩, ⟨some 190, Op.call { callee := Callee.builtin Builtin.len, args := #[Operand.tmp 189], argTypes := #[27] }, 3, none⟩, ⟨some 191, Op.move (Operand.const (Value.int IntKind.i64 0)), 3, none⟩]) (by kernel_rfl) (by kernel_rfl) ?_
                refine TL_q rfl (QV_move rfl) ?_
                refine TL_q rfl (QV_move rfl) ?_
                refine TL_q rfl (QV_idx1 rfl rfl el34 sz27 (hbn)) ?_
                refine TL_q rfl (QV_load rfl one27 (cel_fr hva hk4.f (fun e => by omega))) ?_
                refine TL_q rfl (QV_len rfl el27) ?_
                refine TL_q rfl (QV_move rfl) ?_
                refine TL_nil ?_
                refine W_block 10 (by kernel_rfl) ?_
                refine W_loop (ι := Nat × P3T) (fun j w12 => j.1 ≤ (outE E b).length ∧ Kah n' S6.val E j.2.cnt (dn ++ [b]) j.2.st ((outE E b).drop j.1) ∧ KM w9 w12 w8.heap.size j.2.cnt j.2.sv j.2.st) (fun j => [(10, .slice (some ⟨w8.heap.size, 0, none⟩) n' n'), (11, .slice (some ⟨w8.heap.size + 1, 0, none⟩) n' n'), (12, .int .i64 (((undN S6.val n').length : Nat) : Int)), (21, j.2.sv), (23, .int .i64 (((dn ++ [b]).length : Nat) : Int)), (189, .slice qa (outE E b).length qc), (190, .int .i64 ((outE E b).length : Nat)), (191, .int .i64 (j.1 : Int))]) (fun j => (outE E b).length - j.1) (0, ⟨cn, q, .slice (some ⟨sg3, 0, none⟩) q.length sc⟩) (by kernel_rfl) ?_ ?_ ?_
                · exact ⟨Nat.zero_le _, hka4, hk4⟩
                · exact ⟨rfl, rfl, rfl, rfl, rfl, rfl, rfl, rfl, trivial⟩
                rintro ⟨j, cn5, st5, sv5⟩ w12 ⟨hj, hka5, hk5⟩
                dsimp only at hj hka5 hk5 ⊢
                have hln := hka5.len
                refine W_seq (by kernel_rfl) ?_
                -- R55
                refine W_reg (l := [⟨some 192, Op.binOp BinOp.lss 3 (Operand.tmp 191) (Operand.tmp 190) 3, 0, none⟩]) (by kernel_rfl) (by kernel_rfl) ?_
                refine TL_q rfl (QV_lss rfl rfl) ?_
                refine TL_nil ?_
                refine W_seq (by kernel_rfl) ?_
                refine W_cond (c := Operand.tmp 192) (by kernel_rfl) rfl (fun hc192 => ?_) (fun hc192 => ?_)
                ·
                  have hjl : j < (outE E b).length := by have := of_decide_eq_true hc192; omega
                  obtain ⟨b1, o1, rfl, hb1C, hc1⟩ := hrow (by omega)
                  rw [drop_getD _ j 0 hjl] at hka5
                  have hps := hka5.pos
                  have hun := hka5.u _ (List.mem_cons_self ..)
                  refine W_skip (by kernel_rfl) ?_
                  refine W_seq (by kernel_rfl) ?_
                  refine W_block 11 (by kernel_rfl) ?_
                  refine W_seq (by kernel_rfl) ?_
                  -- R56
                  refine W_reg (l := [⟨some 193, Op.indexAddr 27 (Operand.tmp 189) (Operand.tmp 191), 0, none⟩, ⟨some 194, Op.load 3 (Operand.tmp 193), 3, none⟩, ⟨some 26, Op.assign (Operand.tmp 194), 3, none⟩]) (by kernel_rfl) (by kernel_rfl) ?_
                  refine TL_q rfl (QV_idxO rfl rfl el27 sz3 (hjl)) ?_
                  refine TL_q rfl (QV_load rfl one3 (cel_fr (hc1 j hjl) hk5.f (Nat.ne_of_gt hb1C.1))) ?_
                  refine TL_q rfl (QV_assign rfl) ?_
                  refine TL_nil ?_
                  refine W_seq (by kernel_rfl) ?_
                  -- R57
                  refine W_reg (l := [⟨some 195, Op.move (Operand.tmp 10), 27, none⟩, ⟨some 196, Op.move (Operand.tmp 26), 3, none⟩, ⟨some 197, Op.indexAddr 27 (Operand.tmp 195) (Operand.tmp 196), 0, none⟩, ⟨some 198, Op.load 3 (Operand.tmp 197), 3, none⟩, ⟨some 199, Op.binOp BinOp.sub 3 (Operand.tmp 198) (Operand.const (Value.int IntKind.i64 1)) 3, 3, none⟩, ⟨some 200, Op.indexAddr 27 (Operand.tmp 195) (Operand.tmp 196), 0, none⟩, ⟨none, Op.store 3 (Operand.tmp 200) (Operand.tmp 199), 0, none⟩]) (by kernel_rfl) (by kernel_rfl) ?_
                  refine TL_q rfl (QV_move rfl) ?_
                  refine TL_q rfl (QV_move rfl) ?_
                  refine TL_q rfl (QV_idx1 rfl rfl el27 sz3 (hun.1)) ?_
                  refine TL_q rfl (QV_load rfl one3 (hk5.bc.cI (by rw [hka5.clen]; exact hun.1))) ?_
                  refine TL_q rfl (QV_sub (r := (cn5.getD ((outE E b).getD j 0) 0 - 1 : Int)) rfl rfl (by omega) (by omega) (by omega)) ?_
                  refine TL_q rfl (QV_idx1 rfl rfl el27 sz3 (hun.1)) ?_
                  refine TL_e (EV_store rfl rfl rfl sz3 hk5.bc (by rw [ints_len, hka5.clen]; exact hun.1) fun w13 u13 => ?_)
                  have u13b : Upd w12 w13 w8.heap.size 3 (ints (cn5.set ((outE E b).getD j 0) (cn5.getD ((outE E b).getD j 0) 0 - 1))) := by rw [← ints_set]; exact u13
                  have hk6 := hk5.set u13b
                  have hka6 := hka5.step
                  have gc := hk6.bc.cI (k := ((outE E b).getD j 0)) (by rw [List.length_set, hka5.clen]; exact hun.1)
                  rw [getD_set_eq _ _ _ _ (by rw [hka5.clen]; exact hun.1)] at gc
                  refine TL_nil ?_
                  refine W_seq (by kernel_rfl) ?_
                  -- R58
                  refine W_reg (l := [⟨some 201, Op.move (Operand.tmp 10), 27, none⟩, ⟨some 202, Op.move (Operand.tmp 26), 3, none⟩, ⟨some 203, Op.indexAddr 27 (Operand.tmp 201) (Operand.tmp 202), 0, none⟩, ⟨some 204, Op.load 3 (Operand.tmp 203), 3, none⟩, ⟨some 205, Op.binOp BinOp.eql 3 (Operand.tmp 204) (Operand.const (Value.int IntKind.i64 0)) 3, 4, none⟩]) (by kernel_rfl) (by kernel_rfl) ?_
                  refine TL_q rfl (QV_move rfl) ?_
                  refine TL_q rfl (QV_move rfl) ?_
                  refine TL_q rfl (QV_idx1 rfl rfl el27 sz3 (hun.1)) ?_
                  refine TL_q rfl (QV_load rfl one3 (gc)) ?_
                  refine TL_q rfl (QV_eql rfl rfl) ?_
                  refine TL_nil ?_
                  refine W_cond (c := Operand.tmp 205) (by kernel_rfl) rfl (fun hc205 => ?_) (fun hc205 => ?_)
                  ·
                    have hz := of_decide_eq_true hc205
                    rw [if_pos hz] at hka6
                    obtain ⟨sa5, sc5, rfl, -⟩ := hk6.r.form
                    -- R59
                    refine W_reg (l := [⟨some 206, Op.move (Operand.tmp 21), 27, none⟩, ⟨some 207, Op.move (Operand.tmp 26), 3, none⟩, ⟨some 208, Op.buildSlice 27 1 #[(0, Operand.tmp 207)], 27, none⟩, ⟨some 209, Op.call { callee := Callee.builtin Builtin.append, args := #[Operand.tmp 206, Operand.tmp 208], argTypes := #[27, 27] }, 27, none⟩, ⟨some 21, Op.assign (Operand.tmp 209), 27, none⟩]) (by kernel_rfl) (by kernel_rfl) ?_
                    refine TL_q rfl (QV_move rfl) ?_
                    refine TL_q rfl (QV_move rfl) ?_
                    refine TL_e (EV_lit1 rfl rfl rfl el27 in3 rfl fun w14 k14 => ?_)
                    refine TL_e (EV_append rfl rfl rfl el27 in3 rfl (by decide) (hk6.r.fr k14.fr (fun _ _ h => h)) rfl (news1 k14.blk) (one1 rfl) (by omega) (by omega) fun v15 w15 hrow15 h45 hat => ?_)
                    have hk7 := hk6.push k14 hrow15 h45 hat
                    refine TL_q rfl (QV_assign rfl) ?_
                    refine TL_nil ?_
                    -- R60
                    refine W_reg (l := [⟨some 210, Op.binOp BinOp.add 3 (Operand.tmp 191) (Operand.const (Value.int IntKind.i64 1)) 3, 3, none⟩, ⟨some 191, Op.move (Operand.tmp 210), 3, none⟩]) (by kernel_rfl) (by kernel_rfl) ?_
                    refine TL_q rfl (QV_add (r := ((j + 1 : Nat) : Int)) rfl rfl (by omega) (by omega) (by omega)) ?_
                    refine TL_q rfl (QV_move rfl) ?_
                    refine TL_nil ?_
                    first
                      | exact ⟨(j + 1, ⟨_, _, v15⟩), ⟨by omega, hka6, hk7⟩, ⟨rfl, rfl, rfl, rfl, rfl, rfl, rfl, rfl, trivial⟩, by show (outE E b).length - (j + 1) < (outE E b).length - j; omega⟩
                      | exact ⟨(j + 1, ⟨_, st5, sv5⟩), ⟨by omega, hka6, hk6⟩, ⟨rfl, rfl, rfl, rfl, rfl, rfl, rfl, rfl, trivial⟩, by show (outE E b).length - (j + 1) < (outE E b).length - j; omega⟩
                  ·
                    have hz := of_decide_eq_false hc205
                    rw [if_neg hz] at hka6
                    refine W_skip (by kernel_rfl) ?_
                    -- R60
                    refine W_reg (l := [⟨some 210, Op.binOp BinOp.add 3 (Operand.tmp 191) (Operand.const (Value.int IntKind.i64 1)) 3, 3, none⟩, ⟨some 191, Op.move (Operand.tmp 210), 3, none⟩]) (by kernel_rfl) (by kernel_rfl) ?_
                    refine TL_q rfl (QV_add (r := ((j + 1 : Nat) : Int)) rfl rfl (by omega) (by omega) (by omega)) ?_
                    refine TL_q rfl (QV_move rfl) ?_
                    refine TL_nil ?_
                    first
                      | exact ⟨(j + 1, ⟨_, _, v15⟩), ⟨by omega, hka6, hk7⟩, ⟨rfl, rfl, rfl, rfl, rfl, rfl, rfl, rfl, trivial⟩, by show (outE E b).length - (j + 1) < (outE E b).length - j; omega⟩
                      | exact ⟨(j + 1, ⟨_, st5, sv5⟩), ⟨by omega, hka6, hk6⟩, ⟨rfl, rfl, rfl, rfl, rfl, rfl, rfl, rfl, trivial⟩, by show (outE E b).length - (j + 1) < (outE E b).length - j; omega⟩
                ·
                  have hje : j = (outE E b).length := by have := of_decide_eq_false hc192; omega
                  rw [hje, List.drop_length] at hka5
                  refine W_exit 10 (by kernel_rfl) ?_
                  exact ⟨⟨cn5, dn ++ [b], st5, sv5⟩, ⟨hka5, hk5⟩, ⟨rfl, rfl, rfl, rfl, rfl, trivial⟩, by show n' - (dn ++ [b]).length < n' - dn.length; omega⟩
              ·
                have hnil : st = [] := by have := of_decide_eq_false hc172; exact List.length_eq_zero_iff.1 (by omega)
                subst hnil
                have hfin3 := hka3.fin hE.e
                refine W_exit 8 (by kernel_rfl) ?_
                show T Try.prog 214 (C Try.f9 [1, 1, 1, 1, 1, 1, 1, 1, 1, 1, 1, 1, 1, 1, 1, 1, 1]) _ _ _
                refine W_seq (by kernel_rfl) ?_
                -- R61
                refine W_reg (l := [⟨some 211, Op.move (Operand.tmp 23), 3, none⟩, ⟨some 212, Op.move (Operand.tmp 12), 3, none⟩, ⟨some 213, Op.binOp BinOp.eql 3 (Operand.tmp 211) (Operand.tmp 212) 3, 4, none⟩, ⟨some 4, Op.assign (Operand.tmp 213), 4, none⟩]) (by kernel_rfl) (by kernel_rfl) ?_
                refine TL_q rfl (QV_move rfl) ?_
                refine TL_q rfl (QV_move rfl) ?_
                refine TL_q rfl (QV_eql rfl rfl) ?_
                refine TL_q rfl (QV_assign rfl) ?_
                refine TL_nil ?_
                refine W_ret (by kernel_rfl) ?_
                first
                  | exact ⟨_, rfl, rfl, Fr.refl _ _⟩
                  | exact ⟨_, rfl, rfl, f3⟩
                  | exact ⟨_, rfl, congrArg Value.bool (decide_eq_true (by rw [hfin3])), (((((f3.trans f4).trans f5).step (f6.mono (Y := fun g => L.s < g) (fun _ _ e => e.1)) (by have := f3.size; have := f4.size; have := f5.size; intro i hi _ e; omega)).trans f8).trans hm.f).step hk3.f (by have := f3.size; have := f4.size; have := f5.size; have := f6.size; have := f8.size; intro i hi _ e; omega)⟩

end Go.Proofs.Qxb6600121a
