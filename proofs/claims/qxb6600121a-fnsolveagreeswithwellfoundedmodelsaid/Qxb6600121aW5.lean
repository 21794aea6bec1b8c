/-
   Walks written by program (wip/gen).
-/
import Derived.Test.Qxb6600121aFin
import Derived.Test.Qxb6600121aW23
import Derived.Test.Qxb6600121aW12
import Derived.Test.Qxb6600121aW13
import Derived.Test.Qxb6600121aW14
import Derived.Test.Qxb6600121aW17
import Derived.Test.Qxb6600121aW21
import Derived.Test.Qxb6600121aW20
namespace Go.Proofs.Qxb6600121a
open Go Go.Proofs
set_option linter.unusedVariables false
set_option linter.unusedSimpArgs false

theorem Rch.rev {E : Nat → Nat → Prop} {Q : Nat → Prop} {x y : Nat} (hx : Q x) (h : Rch E Q x y) : Rch (fun a b => E b a) Q y x :=
  (h (fun z => Q z ∧ Rch (fun a b => E b a) Q z x) ⟨hx, Rch.refl x⟩ (fun z z' ⟨h1, h2⟩ he hq => ⟨hq, (Rch.step (E := fun a b => E b a) he h1).trans h2⟩)).2
theorem mem_sg {atoms ends : List Nat} {k z : Nat} (h : z ∈ sg atoms ends k) : ∃ i, prevE ends k ≤ i ∧ i < ends.getD k 0 ∧ z = atoms.getD i 0 := by
  unfold sg at h
  obtain ⟨i, hi, he⟩ := List.mem_iff_getElem.1 h
  rw [List.length_drop, List.length_take] at hi
  rw [List.getElem_drop, List.getElem_take] at he
  refine ⟨prevE ends k + i, by omega, by omega, ?_⟩
  rw [List.getD_eq_getElem?_getD, List.getElem?_eq_getElem (by omega), he]
  rfl
theorem sg_mem {atoms ends : List Nat} {k i : Nat} (h1 : prevE ends k ≤ i) (h2 : i < ends.getD k 0) (h3 : ends.getD k 0 ≤ atoms.length) : atoms.getD i 0 ∈ sg atoms ends k := by
  have hi : i < atoms.length := by omega
  have e : atoms.getD i 0 = atoms[i] := by rw [List.getD_eq_getElem?_getD, List.getElem?_eq_getElem hi]; rfl
  rw [e]
  unfold sg
  refine List.mem_iff_getElem.2 ⟨i - prevE ends k, by rw [List.length_drop, List.length_take]; omega, ?_⟩
  rw [List.getElem_drop, List.getElem_take]
  congr 1
  omega

set_option maxRecDepth 10000 in
set_option maxHeartbeats 1000000 in
theorem strongLaw (w : World) (B : Nat → Prop) (n : Int) (v : Value) (rs : List RD) (hv : RulesAt w.heap B v rs) :
    CallsS Try.prog 5 #[.int .i64 n, v] w (fun r w' => r = .bool true ∧ Fr (fun _ => False) w w') := by
  refine W_fun [4] Try.func5 rfl Try.ntmps5 Try.results5 (Nat.le_of_ble_eq_true rfl) ?_
  refine W_seq (by kernel_rfl) ?_
  -- R0
  refine W_reg (l := [⟨some 4, Op.assign (Operand.const (Value.bool false)), 4, none⟩]) (by kernel_rfl) (by kernel_rfl) ?_
  refine TL_q rfl (QV_assign rfl) ?_
  refine TL_nil ?_
  refine W_seq (by kernel_rfl) ?_
  refine W_seq (by kernel_rfl) ?_
  -- R1
  refine W_reg (l := [⟨some 18, Op.move (Operand.tmp 0), 3, none⟩, ⟨some 19, Op.move (Operand.tmp 1), 22, none⟩, ⟨some 20, Op.call { callee := Callee.value (Operand.func 19), args := #[Operand.tmp 18, Operand.tmp 19], argTypes := #[3, 22] }, 4, none⟩, ⟨some 21, Op.unOp UnOp.not 4 (Operand.tmp 20), 4, none⟩]) (by kernel_rfl) (by kernel_rfl) ?_
  refine TL_q rfl (QV_move rfl) ?_
  refine TL_q rfl (QV_move rfl) ?_
  refine TL_e (EV_callD rfl rfl rfl call19 (bytes19 w B n v rs hv) fun r w1 hr => ?_)
  obtain ⟨hw1, b1, rfl, hb1⟩ := hr
  rw [hw1]
  clear hw1
  refine TL_q rfl (QV_not rfl) ?_
  refine TL_nil ?_
  refine W_cond (c := Operand.tmp 21) (by kernel_rfl) rfl (fun hc21 => ?_) (fun hc21 => ?_)
  ·
    refine W_seq (by kernel_rfl) ?_
    -- R2
    refine W_reg (l := [⟨some 4, Op.assign (Operand.const (Value.bool true)), 4, none⟩]) (by kernel_rfl) (by kernel_rfl) ?_
    refine TL_q rfl (QV_assign rfl) ?_
    refine TL_nil ?_
    refine W_ret (by kernel_rfl) ?_
    first
      | exact ⟨_, rfl, rfl, Fr.refl _ _⟩
      | exact ⟨_, rfl, rfl, f3⟩
      | exact ⟨_, rfl, rfl, Fr.step (((((((f3.trans f4).trans f5).trans f6).trans f7).trans f8).trans f9).trans e10) fr (by have := f3.size; have := f4.size; omega)⟩
  ·
    have hb1 := hb1 (by cases b1 <;> first | rfl | cases hc21)
    refine W_skip (by kernel_rfl) ?_
    refine W_seq (by kernel_rfl) ?_
    refine W_seq (by kernel_rfl) ?_
    -- R3
    refine W_reg (l := [⟨some 22, Op.move (Operand.tmp 0), 3, none⟩, ⟨some 23, Op.move (Operand.tmp 1), 22, none⟩, ⟨some 24, Op.call { callee := Callee.value (Operand.func 11), args := #[Operand.tmp 22, Operand.tmp 23], argTypes := #[3, 22] }, 4, none⟩, ⟨some 25, Op.unOp UnOp.not 4 (Operand.tmp 24), 4, none⟩]) (by kernel_rfl) (by kernel_rfl) ?_
    refine TL_q rfl (QV_move rfl) ?_
    refine TL_q rfl (QV_move rfl) ?_
    refine TL_e (EV_callD rfl rfl rfl call11 (sized w B n v rs hv) fun r w2 hr => ?_)
    obtain ⟨hw2, b2, rfl, hb2⟩ := hr
    rw [hw2]
    clear hw2
    refine TL_q rfl (QV_not rfl) ?_
    refine TL_nil ?_
    refine W_cond (c := Operand.tmp 25) (by kernel_rfl) rfl (fun hc25 => ?_) (fun hc25 => ?_)
    ·
      refine W_seq (by kernel_rfl) ?_
      -- R4
      refine W_reg (l := [⟨some 4, Op.assign (Operand.const (Value.bool true)), 4, none⟩]) (by kernel_rfl) (by kernel_rfl) ?_
      refine TL_q rfl (QV_assign rfl) ?_
      refine TL_nil ?_
      refine W_ret (by kernel_rfl) ?_
      first
        | exact ⟨_, rfl, rfl, Fr.refl _ _⟩
        | exact ⟨_, rfl, rfl, f3⟩
        | exact ⟨_, rfl, rfl, Fr.step (((((((f3.trans f4).trans f5).trans f6).trans f7).trans f8).trans f9).trans e10) fr (by have := f3.size; have := f4.size; omega)⟩
    ·
      have hb2 := hb2 (by cases b2 <;> first | rfl | cases hc25)
      obtain ⟨n', rfl⟩ := Int.eq_ofNat_of_zero_le hb2.1
      refine W_skip (by kernel_rfl) ?_
      refine W_seq (by kernel_rfl) ?_
      refine W_seq (by kernel_rfl) ?_
      -- R5
      refine W_reg (l := [⟨some 26, Op.move (Operand.tmp 0), 3, none⟩, ⟨some 27, Op.move (Operand.tmp 1), 22, none⟩, ⟨some 28, Op.call { callee := Callee.value (Operand.func 12), args := #[Operand.tmp 26, Operand.tmp 27], argTypes := #[3, 22] }, 4, none⟩, ⟨some 29, Op.unOp UnOp.not 4 (Operand.tmp 28), 4, none⟩]) (by kernel_rfl) (by kernel_rfl) ?_
      refine TL_q rfl (QV_move rfl) ?_
      refine TL_q rfl (QV_move rfl) ?_
      refine TL_e (EV_callD rfl rfl rfl call12 (inRange w B n' v rs hv hb1) fun r w3 hr => ?_)
      obtain ⟨f3, b3, rfl, hb3⟩ := hr
      refine TL_q rfl (QV_not rfl) ?_
      refine TL_nil ?_
      refine W_cond (c := Operand.tmp 29) (by kernel_rfl) rfl (fun hc29 => ?_) (fun hc29 => ?_)
      ·
        refine W_seq (by kernel_rfl) ?_
        -- R6
        refine W_reg (l := [⟨some 4, Op.assign (Operand.const (Value.bool true)), 4, none⟩]) (by kernel_rfl) (by kernel_rfl) ?_
        refine TL_q rfl (QV_assign rfl) ?_
        refine TL_nil ?_
        refine W_ret (by kernel_rfl) ?_
        first
          | exact ⟨_, rfl, rfl, Fr.refl _ _⟩
          | exact ⟨_, rfl, rfl, f3⟩
          | exact ⟨_, rfl, rfl, Fr.step (((((((f3.trans f4).trans f5).trans f6).trans f7).trans f8).trans f9).trans e10) fr (by have := f3.size; have := f4.size; omega)⟩
      ·
        have hb3 := hb3 (by cases b3 <;> first | rfl | cases hc29)
        obtain ⟨D, rfl, hok⟩ := plain_of hb3
        rw [List.length_map] at hb1
        refine W_skip (by kernel_rfl) ?_
        refine W_seq (by kernel_rfl) ?_
        -- R7
        refine W_reg (l := [⟨some 30, Op.move (Operand.tmp 1), 22, none⟩, ⟨some 31, Op.call { callee := Callee.value (Operand.func 13), args := #[Operand.tmp 30], argTypes := #[22] }, 22, none⟩, ⟨some 1, Op.assign (Operand.tmp 31), 22, none⟩]) (by kernel_rfl) (by kernel_rfl) ?_
        refine TL_q rfl (QV_move rfl) ?_
        refine TL_e (EV_callD rfl rfl rfl call13 (cloneRules w3 B v _ (hv.fr f3 (fun _ _ h => h)) (by rw [List.length_map]; exact hb1)) fun r w4 hr => ?_)
        obtain ⟨f4, hcl⟩ := hr
        refine TL_q rfl (QV_assign rfl) ?_
        refine TL_nil ?_
        refine W_seq (by kernel_rfl) ?_
        -- R8
        refine W_reg (l := [⟨some 32, Op.move (Operand.tmp 0), 3, none⟩, ⟨some 33, Op.move (Operand.tmp 1), 22, none⟩, ⟨some 34, Op.call { callee := Callee.value (Operand.func 14), args := #[Operand.tmp 32, Operand.tmp 33], argTypes := #[3, 22] }, 25, none⟩, ⟨some 5, Op.assign (Operand.tmp 34), 25, none⟩]) (by kernel_rfl) (by kernel_rfl) ?_
        refine TL_q rfl (QV_move rfl) ?_
        refine TL_q rfl (QV_move rfl) ?_
        refine TL_e (EV_callD rfl rfl rfl call14 (newSolver w4 _ (fun b hb => hb.2) n' r D hcl hok hb1 (by omega)) fun r2 w5 hr => ?_)
        obtain ⟨L, rfl, f5, hL1, hL2, hsol⟩ := hr
        refine TL_q rfl (QV_assign rfl) ?_
        refine TL_nil ?_
        refine W_seq (by kernel_rfl) ?_
        -- R9
        refine W_reg (l := [⟨some 36, Op.move (Operand.tmp 5), 25, none⟩, ⟨some 37, Op.call { callee := Callee.value (Operand.func 15), args := #[Operand.tmp 36], argTypes := #[25] }, 28, none⟩, ⟨some 35, Op.move (Operand.tmp 37), 28, none⟩, ⟨some 38, Op.extract (Operand.tmp 35) 0, 27, none⟩, ⟨some 39, Op.extract (Operand.tmp 35) 1, 27, none⟩, ⟨some 6, Op.assign (Operand.tmp 38), 27, none⟩, ⟨some 7, Op.assign (Operand.tmp 39), 27, none⟩]) (by kernel_rfl) (by kernel_rfl) ?_
        refine TL_q rfl (QV_move rfl) ?_
        refine TL_e (EV_callD rfl rfl rfl call15 (compsF w5 L n' (by omega) D hok hb1 hsol.stat hsol.c0 hsol.c1) fun r3 w6 hr => ?_)
        obtain ⟨av, ev, rfl, atoms, ends, hfin, f6, hra, hre, hga, hge6⟩ := hr
        have hpart := hfin.part
        refine TL_q rfl (QV_move rfl) ?_
        refine TL_q rfl (QV_extract rfl rfl) ?_
        refine TL_q rfl (QV_extract rfl rfl) ?_
        refine TL_q rfl (QV_assign rfl) ?_
        refine TL_q rfl (QV_assign rfl) ?_
        refine TL_nil ?_
        refine W_seq (by kernel_rfl) ?_
        refine W_seq (by kernel_rfl) ?_
        -- R10
        refine W_reg (l := [⟨some 40, Op.move (Operand.tmp 0), 3, none⟩, ⟨some 41, Op.move (Operand.tmp 6), 27, none⟩, ⟨some 42, Op.move (Operand.tmp 7), 27, none⟩, ⟨some 43, Op.call { callee := Callee.value (Operand.func 16), args := #[Operand.tmp 40, Operand.tmp 41, Operand.tmp 42], argTypes := #[3, 27, 27] }, 4, none⟩, ⟨some 44, Op.unOp UnOp.not 4 (Operand.tmp 43), 4, none⟩]) (by kernel_rfl) (by kernel_rfl) ?_
        refine TL_q rfl (QV_move rfl) ?_
        refine TL_q rfl (QV_move rfl) ?_
        refine TL_q rfl (QV_move rfl) ?_
        refine TL_e (EV_callD rfl rfl rfl call16 (partitionWalk w6 (fun _ => True) n' (by omega) av ev atoms ends (hra.intsAt (fun _ _ => trivial)) (hre.intsAt (fun _ _ => trivial)) hpart (by have := hfin.ne; omega)) fun r4 w7 hr => ?_)
        obtain ⟨rfl, f7⟩ := hr
        refine TL_q rfl (QV_not rfl) ?_
        refine TL_nil ?_
        refine W_cond (c := Operand.tmp 44) (by kernel_rfl) rfl (fun hc44 => ?_) (fun hc44 => ?_)
        ·
          cases hc44
        ·
          refine W_skip (by kernel_rfl) ?_
          refine W_seq (by kernel_rfl) ?_
          -- R12
          refine W_reg (l := [⟨some 45, Op.move (Operand.tmp 0), 3, none⟩, ⟨some 46, Op.move (Operand.tmp 6), 27, none⟩, ⟨some 47, Op.move (Operand.tmp 7), 27, none⟩, ⟨some 48, Op.call { callee := Callee.value (Operand.func 18), args := #[Operand.tmp 45, Operand.tmp 46, Operand.tmp 47], argTypes := #[3, 27, 27] }, 27, none⟩, ⟨some 8, Op.assign (Operand.tmp 48), 27, none⟩]) (by kernel_rfl) (by kernel_rfl) ?_
          refine TL_q rfl (QV_move rfl) ?_
          refine TL_q rfl (QV_move rfl) ?_
          refine TL_q rfl (QV_move rfl) ?_
          refine TL_e (EV_callD rfl rfl rfl call18 (compOf w7 (fun _ => True) n' (by omega) av ev atoms ends ((hra.fr f7 (fun _ _ h => h)).intsAt (fun _ _ => trivial)) ((hre.fr f7 (fun _ _ h => h)).intsAt (fun _ _ => trivial)) hpart (by have := hfin.ne; omega)) fun r5 w8 hr => ?_)
          obtain ⟨f8, cs, hcsl, rfl, hcsb, hcs⟩ := hr
          refine TL_q rfl (QV_assign rfl) ?_
          refine TL_nil ?_
          refine W_seq (by kernel_rfl) ?_
          -- R13
          refine W_reg (l := [⟨some 50, Op.move (Operand.tmp 0), 3, none⟩, ⟨some 51, Op.move (Operand.tmp 1), 22, none⟩, ⟨some 52, Op.call { callee := Callee.value (Operand.func 20), args := #[Operand.tmp 50, Operand.tmp 51], argTypes := #[3, 22] }, 35, none⟩, ⟨some 49, Op.move (Operand.tmp 52), 35, none⟩, ⟨some 53, Op.extract (Operand.tmp 49) 0, 34, none⟩, ⟨some 54, Op.extract (Operand.tmp 49) 1, 34, none⟩, ⟨some 55, Op.extract (Operand.tmp 49) 2, 34, none⟩, ⟨some 9, Op.assign (Operand.tmp 53), 34, none⟩, ⟨some 10, Op.assign (Operand.tmp 54), 34, none⟩, ⟨some 11, Op.assign (Operand.tmp 55), 34, none⟩]) (by kernel_rfl) (by kernel_rfl) ?_
          refine TL_q rfl (QV_move rfl) ?_
          refine TL_q rfl (QV_move rfl) ?_
          refine TL_e (EV_callD rfl rfl rfl call20 (zzIndex w8 _ n' r D (((((hcl.fr f5 (fun _ _ h => h)).fr f6 (fun _ _ h => h)).fr f7 (fun _ _ h => h)).fr f8 (fun _ _ h => h))) hok hb1 (by omega)) fun r6 w9 hr => ?_)
          obtain ⟨f9, v1, v2, v3, rfl, ht1, ht2, ht3⟩ := hr
          refine TL_q rfl (QV_move rfl) ?_
          refine TL_q rfl (QV_extract rfl rfl) ?_
          refine TL_q rfl (QV_extract rfl rfl) ?_
          refine TL_q rfl (QV_extract rfl rfl) ?_
          refine TL_q rfl (QV_assign rfl) ?_
          refine TL_q rfl (QV_assign rfl) ?_
          refine TL_q rfl (QV_assign rfl) ?_
          refine TL_nil ?_
          refine W_seq (by kernel_rfl) ?_
          -- R14
          refine W_reg (l := [⟨some 56, Op.move (Operand.tmp 0), 3, none⟩, ⟨some 57, Op.makeSlice 37 (Operand.tmp 56) (Operand.tmp 56), 37, none⟩, ⟨some 12, Op.assign (Operand.tmp 57), 37, none⟩]) (by kernel_rfl) (by kernel_rfl) ?_
          refine TL_q rfl (QV_move rfl) ?_
          refine TL_e (EV_make1 rfl rfl rfl el37 in4 rfl (by omega) (by omega) (by omega) fun w10 h10 => ?_)
          refine TL_q rfl (QV_assign rfl) ?_
          refine TL_nil ?_
          refine W_seq (by kernel_rfl) ?_
          -- R15
          refine W_reg (l := [⟨some 58, Op.move (Operand.tmp 0), 3, none⟩, ⟨some 59, Op.makeSlice 37 (Operand.tmp 58) (Operand.tmp 58), 37, none⟩, ⟨some 13, Op.assign (Operand.tmp 59), 37, none⟩]) (by kernel_rfl) (by kernel_rfl) ?_
          refine TL_q rfl (QV_move rfl) ?_
          refine TL_e (EV_make1 rfl rfl rfl el37 in4 rfl (by omega) (by omega) (by omega) fun w11 h11 => ?_)
          refine TL_q rfl (QV_assign rfl) ?_
          refine TL_nil ?_
          have s4 := f5.size
          have s6 := f6.size
          have s7 := f7.size
          have s8 := f8.size
          have s9 := f9.size
          have s10 := h10.size
          have s11 := h11.size
          have e10 : Fr (fun _ => False) w9 w11 := h10.fr.newb h11
          have hrules := (((((hcl.fr f5 (fun _ _ h => h)).fr f6 (fun _ _ h => h)).fr f7 (fun _ _ h => h)).fr f8 (fun _ _ h => h)).fr f9 (fun _ _ h => h)).fr e10 (fun _ _ h => h)
          have hra2 := (((hra.fr f7 (fun _ _ h => h)).fr f8 (fun _ _ h => h)).fr f9 (fun _ _ h => h)).fr e10 (fun _ _ h => h)
          have hre2 := (((hre.fr f7 (fun _ _ h => h)).fr f8 (fun _ _ h => h)).fr f9 (fun _ _ h => h)).fr e10 (fun _ _ h => h)
          have hga2 := fun g hg => hra.lt (b := g) hg
          have hge2 := fun g hg => hre.lt (b := g) hg
          obtain ⟨aa, ca, rfl, hca, hpa⟩ := (hra2.intsAt (S := fun g => g < w6.heap.size) hga2).nat
          obtain ⟨ae, ce, rfl, hce, hpe⟩ := (hre2.intsAt (S := fun g => g < w6.heap.size) hge2).nat
          have hcsb2 := (hcsb.fr f9 (fun h => h)).fr e10 (fun h => h)
          have hcsz := hcsb.lt
          have hbF : Blk w11.heap w9.heap.size 4 (bools (List.replicate n' false)) := by have h1 := h10.blk; rw [bools_rep] at h1; exact h1.fr h11.fr (fun h => h)
          have hbB : Blk w11.heap w10.heap.size 4 (bools (List.replicate n' false)) := by have h1 := h11.blk; rw [bools_rep] at h1; exact h1
          have hlen := hpart.len
          have hne := hfin.ne
          obtain ⟨rv, hrv⟩ : ∃ rv, r = rv := ⟨_, rfl⟩
          subst hrv
          refine W_seq (by kernel_rfl) ?_
          -- R16
          refine W_reg (l := [⟨some 14, Op.assign (Operand.const (Value.int IntKind.i64 0)), 3, none⟩]) (by kernel_rfl) (by kernel_rfl) ?_
          refine TL_q rfl (QV_assign rfl) ?_
          refine TL_nil ?_
          refine W_seq (by kernel_rfl) ?_
          refine W_seq (by kernel_rfl) ?_
          -- R17
          refine W_reg (l := [⟨some 15, Op.assign (Operand.const (Value.int IntKind.i64 0)), 3, none⟩]) (by kernel_rfl) (by kernel_rfl) ?_
          refine TL_q rfl (QV_assign rfl) ?_
          refine TL_nil ?_
          refine W_block 0 (by kernel_rfl) ?_
          refine W_loop (ι := Nat × List Bool × List Bool) (fun i w12 => i.1 ≤ ends.length ∧ Fr (fun g => g = w9.heap.size ∨ g = w10.heap.size) w11 w12 ∧ Blk w12.heap w9.heap.size 4 (bools i.2.1) ∧ Blk w12.heap w10.heap.size 4 (bools i.2.2) ∧ i.2.1.length = n' ∧ i.2.2.length = n' ∧ ∀ x, i.1 ≤ cs.getD x 0 → i.2.1.getD x false = false ∧ i.2.2.getD x false = false) (fun i => [(1, r), (6, .slice aa atoms.length ca), (7, .slice ae ends.length ce), (8, .slice (some ⟨w7.heap.size, 0, none⟩) n' n'), (9, v1), (10, v2), (11, v3), (12, .slice (some ⟨w9.heap.size, 0, none⟩) n' n'), (13, .slice (some ⟨w10.heap.size, 0, none⟩) n' n'), (14, .int .i64 ((prevE ends i.1 : Nat) : Int)), (15, .int .i64 (i.1 : Int))]) (fun i => ends.length - i.1) (0, List.replicate n' false, List.replicate n' false) (by kernel_rfl) ?_ ?_ ?_
          · exact ⟨Nat.zero_le _, Fr.refl _ _, hbF, hbB, by simp, by simp, fun x _ => ⟨getD_rep _ _ _, getD_rep _ _ _⟩⟩
          · exact ⟨rfl, rfl, rfl, rfl, rfl, rfl, rfl, rfl, rfl, rfl, rfl, trivial⟩
          rintro ⟨k, fs, bs⟩ w12 ⟨hk, fr, hF, hBb, hfl, hbl, hun⟩
          dsimp only at hk fr hF hBb hfl hbl hun ⊢
          have s12 := fr.size
          refine W_seq (by kernel_rfl) ?_
          refine W_seq (by kernel_rfl) ?_
          -- R18
          refine W_reg (l := [⟨some 60, Op.move (Operand.tmp 15), 3, none⟩, ⟨some 61, Op.move (Operand.tmp 7), 27, none⟩, ⟨some 62, Op.call { callee := Callee.builtin Builtin.len, args := #[Operand.tmp 61], argTypes := #[27] }, 3, none⟩, ⟨some 63, Op.binOp BinOp.lss 3 (Operand.tmp 60) (Operand.tmp 62) 3, 4, none⟩]) (by kernel_rfl) (by kernel_rfl) ?_
          refine TL_q rfl (QV_move rfl) ?_
          refine TL_q rfl (QV_move rfl) ?_
          refine TL_q rfl (QV_len rfl el27) ?_
          refine TL_q rfl (QV_lss rfl rfl) ?_
          refine TL_nil ?_
          refine W_cond (c := Operand.tmp 63) (by kernel_rfl) rfl (fun hc63 => ?_) (fun hc63 => ?_)
          ·
            have hlt : k < ends.length := by have := of_decide_eq_true hc63; omega
            have hinc := hpart.inc k hlt
            obtain ⟨b, o, rfl, hbB2, hcel⟩ := hpe (by omega)
            obtain ⟨b3, o3, rfl, hbB3, hcel3⟩ := hpa (by omega)
            have hroot := hpart.lt (prevE ends k) (by omega)
            have hrk := hcs k (prevE ends k) hlt (Nat.le_refl _) hinc.1
            have hst : prevE ends k < atoms.length := by omega
            have hseg : ∀ z, z ∈ sg atoms ends k → z < n' ∧ cs.getD z 0 = k := fun z hz => by
              obtain ⟨i, h1, h2, rfl⟩ := mem_sg hz
              exact ⟨hpart.lt i (by omega), hcs k i hlt h1 h2⟩
            have hroots : atoms.getD (prevE ends k) 0 ∈ sg atoms ends k := sg_mem (Nat.le_refl _) hinc.1 (by omega)
            have hreach : ∀ i, prevE ends k ≤ i → i < ends.getD k 0 → Rch (Ed D) (fun z => z < n' ∧ cs.getD z 0 = k) (atoms.getD (prevE ends k) 0) (atoms.getD i 0) ∧ Rch (fun x d => Ed D d x) (fun z => z < n' ∧ cs.getD z 0 = k) (atoms.getD (prevE ends k) 0) (atoms.getD i 0) := fun i h1 h2 => by
              have hm := sg_mem h1 h2 (by omega : ends.getD k 0 ≤ atoms.length)
              exact ⟨(hfin.sc k hlt _ hroots _ hm).mono hseg, Rch.rev (hseg _ hm) ((hfin.sc k hlt _ hm _ hroots).mono hseg)⟩
            refine W_skip (by kernel_rfl) ?_
            refine W_seq (by kernel_rfl) ?_
            refine W_block 1 (by kernel_rfl) ?_
            refine W_seq (by kernel_rfl) ?_
            -- R20
            refine W_reg (l := [⟨some 66, Op.move (Operand.tmp 6), 27, none⟩, ⟨some 67, Op.move (Operand.tmp 14), 3, none⟩, ⟨some 68, Op.indexAddr 27 (Operand.tmp 66) (Operand.tmp 67), 0, none⟩, ⟨some 69, Op.load 3 (Operand.tmp 68), 3, none⟩, ⟨some 16, Op.assign (Operand.tmp 69), 3, none⟩]) (by kernel_rfl) (by kernel_rfl) ?_
            refine TL_q rfl (QV_move rfl) ?_
            refine TL_q rfl (QV_move rfl) ?_
            refine TL_q rfl (QV_idxO rfl rfl el27 sz3 (hst)) ?_
            refine TL_q rfl (QV_load rfl one3 (cel_fr (hcel3 _ hst) fr (by omega))) ?_
            refine TL_q rfl (QV_assign rfl) ?_
            refine TL_nil ?_
            refine W_seq (by kernel_rfl) ?_
            -- R21
            refine W_reg (l := [⟨some 70, Op.move (Operand.tmp 16), 3, none⟩, ⟨some 71, Op.move (Operand.tmp 15), 3, none⟩, ⟨some 72, Op.move (Operand.tmp 8), 27, none⟩, ⟨some 73, Op.move (Operand.tmp 1), 22, none⟩, ⟨some 74, Op.move (Operand.tmp 9), 34, none⟩, ⟨some 75, Op.move (Operand.tmp 10), 34, none⟩, ⟨some 76, Op.move (Operand.tmp 11), 34, none⟩, ⟨some 77, Op.move (Operand.tmp 12), 37, none⟩, ⟨some 78, Op.call { callee := Callee.value (Operand.func 21), args := #[Operand.tmp 70, Operand.tmp 71, Operand.tmp 72, Operand.tmp 73, Operand.tmp 74, Operand.tmp 75, Operand.tmp 76, Operand.tmp 77, Operand.const (Value.bool true)], argTypes := #[3, 3, 27, 22, 34, 34, 34, 37, 4] }, 0, none⟩]) (by kernel_rfl) (by kernel_rfl) ?_
            refine TL_q rfl (QV_move rfl) ?_
            refine TL_q rfl (QV_move rfl) ?_
            refine TL_q rfl (QV_move rfl) ?_
            refine TL_q rfl (QV_move rfl) ?_
            refine TL_q rfl (QV_move rfl) ?_
            refine TL_q rfl (QV_move rfl) ?_
            refine TL_q rfl (QV_move rfl) ?_
            refine TL_q rfl (QV_move rfl) ?_
            refine TL_e (EV_callD rfl rfl rfl call21 (reachWalk w12 _ _ n' k _ w9.heap.size w7.heap.size (by omega) hroot D hok hb1 r v1 v2 v3 cs hcsl (hcsb2.fr fr (by omega)) (by omega) hrk fs hfl hF (fun x _ hx => (hun x (by omega)).1) (hrules.fr fr (fun b hb e => by have := hb.2; omega)) (fun b hb e => by have := hb.2; omega) ((ht1.fr e10 (fun _ _ h => h)).fr fr (fun b hb e => by have := hb.2; omega)) ((ht2.fr e10 (fun _ _ h => h)).fr fr (fun b hb e => by have := hb.2; omega)) ((ht3.fr e10 (fun _ _ h => h)).fr fr (fun b hb e => by have := hb.2; omega)) (fun b hb e => by have := hb.2; omega) true (Ed D) (fun _ _ _ h => h) (fun h => by cases h)) fun r7 w13 hr => ?_)
            obtain ⟨rfl, fs2, f13, hF2, hfl2, hfk, hfy⟩ := hr
            have fr2 : Fr (fun g => g = w9.heap.size ∨ g = w10.heap.size) w11 w13 := fr.step f13 (fun g hg h e => h (.inl e))
            have s13 := f13.size
            refine TL_nil ?_
            refine W_seq (by kernel_rfl) ?_
            -- R22
            refine W_reg (l := [⟨some 79, Op.move (Operand.tmp 16), 3, none⟩, ⟨some 80, Op.move (Operand.tmp 15), 3, none⟩, ⟨some 81, Op.move (Operand.tmp 8), 27, none⟩, ⟨some 82, Op.move (Operand.tmp 1), 22, none⟩, ⟨some 83, Op.move (Operand.tmp 9), 34, none⟩, ⟨some 84, Op.move (Operand.tmp 10), 34, none⟩, ⟨some 85, Op.move (Operand.tmp 11), 34, none⟩, ⟨some 86, Op.move (Operand.tmp 13), 37, none⟩, ⟨some 87, Op.call { callee := Callee.value (Operand.func 21), args := #[Operand.tmp 79, Operand.tmp 80, Operand.tmp 81, Operand.tmp 82, Operand.tmp 83, Operand.tmp 84, Operand.tmp 85, Operand.tmp 86, Operand.const (Value.bool false)], argTypes := #[3, 3, 27, 22, 34, 34, 34, 37, 4] }, 0, none⟩]) (by kernel_rfl) (by kernel_rfl) ?_
            refine TL_q rfl (QV_move rfl) ?_
            refine TL_q rfl (QV_move rfl) ?_
            refine TL_q rfl (QV_move rfl) ?_
            refine TL_q rfl (QV_move rfl) ?_
            refine TL_q rfl (QV_move rfl) ?_
            refine TL_q rfl (QV_move rfl) ?_
            refine TL_q rfl (QV_move rfl) ?_
            refine TL_q rfl (QV_move rfl) ?_
            refine TL_e (EV_callD rfl rfl rfl call21 (reachWalk w13 _ _ n' k _ w10.heap.size w7.heap.size (by omega) hroot D hok hb1 r v1 v2 v3 cs hcsl (hcsb2.fr fr2 (by omega)) (by omega) hrk bs hbl (hBb.fr f13 (by omega)) (fun x _ hx => (hun x (by omega)).2) (hrules.fr fr2 (fun b hb e => by have := hb.2; omega)) (fun b hb e => by have := hb.2; omega) ((ht1.fr e10 (fun _ _ h => h)).fr fr2 (fun b hb e => by have := hb.2; omega)) ((ht2.fr e10 (fun _ _ h => h)).fr fr2 (fun b hb e => by have := hb.2; omega)) ((ht3.fr e10 (fun _ _ h => h)).fr fr2 (fun b hb e => by have := hb.2; omega)) (fun b hb e => by have := hb.2; omega) false (fun x d => Ed D d x) (fun h => by cases h) (fun _ _ _ h => h)) fun r8 w14 hr => ?_)
            obtain ⟨rfl, bs2, f14, hB2, hbl2, hbk, hby⟩ := hr
            have fr3 : Fr (fun g => g = w9.heap.size ∨ g = w10.heap.size) w11 w14 := fr2.step f14 (fun g hg h e => h (.inr e))
            have s14 := f14.size
            have hF3 := hF2.fr f14 (by omega)
            refine TL_nil ?_
            refine W_seq (by kernel_rfl) ?_
            refine W_seq (by kernel_rfl) ?_
            -- R23
            refine W_reg (l := [⟨some 88, Op.move (Operand.tmp 14), 3, none⟩, ⟨some 17, Op.assign (Operand.tmp 88), 3, none⟩]) (by kernel_rfl) (by kernel_rfl) ?_
            refine TL_q rfl (QV_move rfl) ?_
            refine TL_q rfl (QV_assign rfl) ?_
            refine TL_nil ?_
            refine W_block 2 (by kernel_rfl) ?_
            refine W_loop (fun (i : Nat) w15 => prevE ends k ≤ i ∧ i ≤ ends.getD k 0 ∧ w14 = w15) (fun i => [(1, r), (6, .slice (some ⟨b3, o3, none⟩) atoms.length ca), (7, .slice (some ⟨b, o, none⟩) ends.length ce), (8, .slice (some ⟨w7.heap.size, 0, none⟩) n' n'), (9, v1), (10, v2), (11, v3), (12, .slice (some ⟨w9.heap.size, 0, none⟩) n' n'), (13, .slice (some ⟨w10.heap.size, 0, none⟩) n' n'), (14, .int .i64 ((prevE ends k : Nat) : Int)), (15, .int .i64 (k : Int)), (17, .int .i64 (i : Int))]) (fun i => ends.getD k 0 - i) (prevE ends k) (by kernel_rfl) ?_ ?_ ?_
            · exact ⟨Nat.le_refl _, by omega, rfl⟩
            · exact ⟨rfl, rfl, rfl, rfl, rfl, rfl, rfl, rfl, rfl, rfl, rfl, rfl, trivial⟩
            rintro i w15 ⟨hi1, hi2, rfl⟩
            refine W_seq (by kernel_rfl) ?_
            refine W_seq (by kernel_rfl) ?_
            -- R24
            refine W_reg (l := [⟨some 89, Op.move (Operand.tmp 17), 3, none⟩, ⟨some 90, Op.move (Operand.tmp 7), 27, none⟩, ⟨some 91, Op.move (Operand.tmp 15), 3, none⟩, ⟨some 92, Op.indexAddr 27 (Operand.tmp 90) (Operand.tmp 91), 0, none⟩, ⟨some 93, Op.load 3 (Operand.tmp 92), 3, none⟩, ⟨some 94, Op.binOp BinOp.lss 3 (Operand.tmp 89) (Operand.tmp 93) 3, 4, none⟩]) (by kernel_rfl) (by kernel_rfl) ?_
            refine TL_q rfl (QV_move rfl) ?_
            refine TL_q rfl (QV_move rfl) ?_
            refine TL_q rfl (QV_move rfl) ?_
            refine TL_q rfl (QV_idxO rfl rfl el27 sz3 (hlt)) ?_
            refine TL_q rfl (QV_load rfl one3 (cel_fr (hcel k hlt) fr3 (by omega))) ?_
            refine TL_q rfl (QV_lss rfl rfl) ?_
            refine TL_nil ?_
            refine W_cond (c := Operand.tmp 94) (by kernel_rfl) rfl (fun hc94 => ?_) (fun hc94 => ?_)
            ·
              have hil : i < ends.getD k 0 := by have := of_decide_eq_true hc94; omega
              have hil2 : i < atoms.length := by omega
              have hai := hpart.lt i (by omega)
              have hm1 := hfy _ (hreach i hi1 hil).1
              have hm2 := hby _ (hreach i hi1 hil).2
              refine W_skip (by kernel_rfl) ?_
              refine W_seq (by kernel_rfl) ?_
              refine W_block 3 (by kernel_rfl) ?_
              refine W_seq (by kernel_rfl) ?_
              -- R26
              refine W_reg (l := [⟨some 97, Op.move (Operand.tmp 12), 37, none⟩, ⟨some 98, Op.move (Operand.tmp 6), 27, none⟩, ⟨some 99, Op.move (Operand.tmp 17), 3, none⟩, ⟨some 100, Op.indexAddr 27 (Operand.tmp 98) (Operand.tmp 99), 0, none⟩, ⟨some 101, Op.load 3 (Operand.tmp 100), 3, none⟩, ⟨some 102, Op.indexAddr 37 (Operand.tmp 97) (Operand.tmp 101), 0, none⟩, ⟨some 103, Op.load 4 (Operand.tmp 102), 4, none⟩, ⟨some 104, Op.unOp UnOp.not 4 (Operand.tmp 103), 4, none⟩, ⟨some 105, Op.move (Operand.tmp 104), 4, none⟩, ⟨some 106, Op.move (Operand.tmp 13), 37, some (8, false)⟩, ⟨some 107, Op.move (Operand.tmp 6), 27, some (8, false)⟩, ⟨some 108, Op.move (Operand.tmp 17), 3, some (8, false)⟩, ⟨some 109, Op.indexAddr 27 (Operand.tmp 107) (Operand.tmp 108), 0, some (8, false)⟩, ⟨some 110, Op.load 3 (Operand.tmp 109), 3, some (8, false)⟩, ⟨some 111, Op.indexAddr 37 (Operand.tmp 106) (Operand.tmp 110), 0, some (8, false)⟩, ⟨some 112, Op.load 4 (Operand.tmp 111), 4, some (8, false)⟩, ⟨some 113, Op.unOp UnOp.not 4 (Operand.tmp 112), 4, some (8, false)⟩, ⟨some 114, Op.pick (Operand.tmp 105) (Operand.const (Value.bool true)) (Operand.tmp 113), 4, none⟩]) (by kernel_rfl) (by kernel_rfl) ?_
              refine TL_q rfl (QV_move rfl) ?_
              refine TL_q rfl (QV_move rfl) ?_
              refine TL_q rfl (QV_move rfl) ?_
              refine TL_q rfl (QV_idxO rfl rfl el27 sz3 (hil2)) ?_
              refine TL_q rfl (QV_load rfl one3 (cel_fr (hcel3 i hil2) fr3 (by omega))) ?_
              refine TL_q rfl (QV_idx1 rfl rfl el37 sz4 (hai)) ?_
              refine TL_q rfl (QV_load rfl one4 (hF3.cB (by omega))) ?_
              refine TL_q rfl (QV_not rfl) ?_
              refine TL_q rfl (QV_move rfl) ?_
              refine TL_cases (t := 105) rfl (fun hb105 => ?_) (fun hb105 => ?_)
              ·
                rw [hm1] at hb105; cases hb105
              ·
                refine TL_gq rfl rfl rfl rfl (QV_move rfl) ?_
                refine TL_gq rfl rfl rfl rfl (QV_move rfl) ?_
                refine TL_gq rfl rfl rfl rfl (QV_move rfl) ?_
                refine TL_gq rfl rfl rfl rfl (QV_idxO rfl rfl el27 sz3 (hil2)) ?_
                refine TL_gq rfl rfl rfl rfl (QV_load rfl one3 (cel_fr (hcel3 i hil2) fr3 (by omega))) ?_
                refine TL_gq rfl rfl rfl rfl (QV_idx1 rfl rfl el37 sz4 (hai)) ?_
                refine TL_gq rfl rfl rfl rfl (QV_load rfl one4 (hB2.cB (by omega))) ?_
                refine TL_gq rfl rfl rfl rfl (QV_not rfl) ?_
                refine TL_q rfl (QV_pickF rfl rfl) ?_
                refine TL_nil ?_
                refine W_cond (c := Operand.tmp 114) (by kernel_rfl) rfl (fun hc114 => ?_) (fun hc114 => ?_)
                ·
                  rw [hm2] at hc114; cases hc114
                ·
                  refine W_skip (by kernel_rfl) ?_
                  -- R25
                  refine W_reg (l := [⟨some 95, Op.move (Operand.tmp 17), 3, none⟩, ⟨some 96, Op.binOp BinOp.add 3 (Operand.tmp 95) (Operand.const (Value.int IntKind.i64 1)) 3, 3, none⟩, ⟨some 17, Op.assign (Operand.tmp 96), 3, none⟩]) (by kernel_rfl) (by kernel_rfl) ?_
                  refine TL_q rfl (QV_move rfl) ?_
                  refine TL_q rfl (QV_add (r := ((i + 1 : Nat) : Int)) rfl rfl (by omega) (by omega) (by omega)) ?_
                  refine TL_q rfl (QV_assign rfl) ?_
                  refine TL_nil ?_
                  exact ⟨i + 1, ⟨by omega, by omega, rfl⟩, ⟨rfl, rfl, rfl, rfl, rfl, rfl, rfl, rfl, rfl, rfl, rfl, rfl, trivial⟩, by omega⟩
            ·
              have hie : i = ends.getD k 0 := by have := of_decide_eq_false hc94; omega
              refine W_exit 2 (by kernel_rfl) ?_
              show T Try.prog 119 (C Try.f5 [1, 1, 1, 1, 0, 0, 1, 0, 0, 1, 0, 1, 1, 1, 1, 1, 1, 1, 1, 1, 1, 1, 1, 1]) _ _ _
              -- R28
              refine W_reg (l := [⟨some 115, Op.move (Operand.tmp 7), 27, none⟩, ⟨some 116, Op.move (Operand.tmp 15), 3, none⟩, ⟨some 117, Op.indexAddr 27 (Operand.tmp 115) (Operand.tmp 116), 0, none⟩, ⟨some 118, Op.load 3 (Operand.tmp 117), 3, none⟩, ⟨some 14, Op.assign (Operand.tmp 118), 3, none⟩]) (by kernel_rfl) (by kernel_rfl) ?_
              refine TL_q rfl (QV_move rfl) ?_
              refine TL_q rfl (QV_move rfl) ?_
              refine TL_q rfl (QV_idxO rfl rfl el27 sz3 (hlt)) ?_
              refine TL_q rfl (QV_load rfl one3 (cel_fr (hcel k hlt) fr3 (by omega))) ?_
              refine TL_q rfl (QV_assign rfl) ?_
              refine TL_nil ?_
              -- R19
              refine W_reg (l := [⟨some 64, Op.move (Operand.tmp 15), 3, none⟩, ⟨some 65, Op.binOp BinOp.add 3 (Operand.tmp 64) (Operand.const (Value.int IntKind.i64 1)) 3, 3, none⟩, ⟨some 15, Op.assign (Operand.tmp 65), 3, none⟩]) (by kernel_rfl) (by kernel_rfl) ?_
              refine TL_q rfl (QV_move rfl) ?_
              refine TL_q rfl (QV_add (r := ((k + 1 : Nat) : Int)) rfl rfl (by omega) (by omega) (by omega)) ?_
              refine TL_q rfl (QV_assign rfl) ?_
              refine TL_nil ?_
              exact ⟨(k + 1, fs2, bs2), ⟨by omega, fr3, hF3, hB2, hfl2, hbl2, fun x hx => ⟨by rw [hfk x (by omega)]; exact (hun x (by omega)).1, by rw [hbk x (by omega)]; exact (hun x (by omega)).2⟩⟩, ⟨rfl, rfl, rfl, rfl, rfl, rfl, rfl, rfl, rfl, rfl, rfl, trivial⟩, by show ends.length - (k + 1) < ends.length - k; omega⟩
          ·
            have hge : k = ends.length := by have := of_decide_eq_false hc63; omega
            refine W_exit 0 (by kernel_rfl) ?_
            show T Try.prog 119 (C Try.f5 [1, 1, 1, 1, 1, 1, 1, 1, 1, 1, 1, 1, 1, 1]) _ _ _
            refine W_seq (by kernel_rfl) ?_
            -- R29
            refine W_reg (l := [⟨some 4, Op.assign (Operand.const (Value.bool true)), 4, none⟩]) (by kernel_rfl) (by kernel_rfl) ?_
            refine TL_q rfl (QV_assign rfl) ?_
            refine TL_nil ?_
            refine W_ret (by kernel_rfl) ?_
            first
              | exact ⟨_, rfl, rfl, Fr.refl _ _⟩
              | exact ⟨_, rfl, rfl, f3⟩
              | exact ⟨_, rfl, rfl, Fr.step (((((((f3.trans f4).trans f5).trans f6).trans f7).trans f8).trans f9).trans e10) fr (by have := f3.size; have := f4.size; omega)⟩

end Go.Proofs.Qxb6600121a
