/-
   Walks written by program (wip/gen).
-/
import Derived.Test.Qxb6600121aW36
import Derived.Test.Qxb6600121aLaw1b
namespace Go.Proofs.Qxb6600121a
open Go Go.Proofs
set_option linter.unusedVariables false
set_option linter.unusedSimpArgs false

set_option maxRecDepth 10000 in
theorem comps15 (w : World) (p : Value) (R : Value → Value → World → Prop) (h : CallsS Try.prog 36 #[p] w (fun r w' => ∃ av ev, r = .tuple #[av, ev] ∧ R av ev w')) :
    CallsS Try.prog 15 #[p] w (fun r w' => ∃ av ev, r = .tuple #[av, ev] ∧ R av ev w') := by
  refine W_fun [2, 3] Try.func15 rfl Try.ntmps15 Try.results15 (Nat.le_of_ble_eq_true rfl) ?_
  refine W_seq (by kernel_rfl) ?_
  -- R0
  refine W_reg (l := [⟨some 2, Op.assign (Operand.const (Value.slice none 0 0)), 27, none⟩, ⟨some 3, Op.assign (Operand.const (Value.slice none 0 0)), 27, none⟩]) (by kernel_rfl) (by kernel_rfl) ?_
  refine TL_q rfl (QV_assign rfl) ?_
  refine TL_q rfl (QV_assign rfl) ?_
  refine TL_nil ?_
  refine W_seq (by kernel_rfl) ?_
  -- R1
  refine W_reg (l := [⟨some 4, Op.move (Operand.tmp 0), 25, none⟩, ⟨some 5, Op.call { callee := Callee.value (Operand.func 36), args := #[Operand.tmp 4], argTypes := #[25] }, 28, none⟩, ⟨some 6, Op.extract (Operand.tmp 5) 0, 27, none⟩, ⟨some 7, Op.extract (Operand.tmp 5) 1, 27, none⟩, ⟨some 2, Op.assign (Operand.tmp 6), 27, none⟩, ⟨some 3, Op.assign (Operand.tmp 7), 27, none⟩]) (by kernel_rfl) (by kernel_rfl) ?_
  refine TL_q rfl (QV_move rfl) ?_
  refine TL_e (EV_callD rfl rfl rfl call36 h fun r w2 hr => ?_)
  obtain ⟨av, ev, rfl, hR⟩ := hr
  refine TL_q rfl (QV_extract rfl rfl) ?_
  refine TL_q rfl (QV_extract rfl rfl) ?_
  refine TL_q rfl (QV_assign rfl) ?_
  refine TL_q rfl (QV_assign rfl) ?_
  refine TL_nil ?_
  refine W_ret (by kernel_rfl) ?_
  exact ⟨_, rfl, av, ev, rfl, hR⟩

theorem nodup_subset_length {l m : List Nat} (hl : l.Nodup) (hs : ∀ x ∈ l, x ∈ m) : l.length ≤ m.length := by
  induction l generalizing m with
  | nil => exact Nat.zero_le _
  | cons x l ih =>
    have hx : x ∈ m := hs x (List.mem_cons_self ..)
    rw [List.nodup_cons] at hl
    have h1 := ih (m := m.erase x) hl.2 (fun y hy => by
      have hne : y ≠ x := fun e => hl.1 (e ▸ hy)
      exact (List.mem_erase_of_ne hne).2 (hs y (List.mem_cons_of_mem _ hy)))
    rw [List.length_erase_of_mem hx] at h1
    have : 0 < m.length := List.length_pos_of_mem hx
    rw [List.length_cons]
    omega
theorem P1.stack_nil {D : List Rl} {n : Nat} {t : TJ} (h : P1 D n t) (hc : t.calls = []) : t.stack = [] := by
  have := h.bot
  rw [hc] at this
  exact List.getLast?_eq_none_iff.1 this
theorem P1.part {D : List Rl} {n : Nat} {t : TJ} (h : P1 D n t) (hc : t.calls = []) (hv : ∀ v, v < n → t.index.getD v 0 ≠ 0) : Part n t.atoms t.ends := by
  have hs := h.stack_nil hc
  have hnd := h.nd
  have hlt := h.lt
  have hvis := h.vis
  rw [hs, List.append_nil] at hnd hlt
  have hlen : t.atoms.length = n := by
    have h1 := nodup_lt_length hnd hlt
    have h2 := nodup_subset_length (l := List.range n) (m := t.atoms) List.nodup_range (fun x hx => by
      have hx := List.mem_range.1 hx
      have := (hvis x hx).1 (hv x hx)
      rwa [hs, List.append_nil] at this)
    simp at h2
    omega
  refine ⟨hlen, fun i hi => hlt _ (getD_mem 0 (by omega)), fun i j hij hj => ?_, fun k hk => by have := h.ends k hk; omega, by rw [h.last, hlen]⟩
  have h1 := (List.pairwise_iff_getElem.1 hnd) i j (by omega) (by omega) hij
  simp only [List.getD_eq_getElem?_getD, List.getElem?_eq_getElem (show i < t.atoms.length by omega), List.getElem?_eq_getElem (show j < t.atoms.length by omega), Option.getD_some]
  exact h1

end Go.Proofs.Qxb6600121a
