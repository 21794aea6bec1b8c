/-
   Walks written by program (wip/gen).
-/
import Derived.Test.Qxb6600121aTj2
namespace Go.Proofs.Qxb6600121a
open Go Go.Proofs
set_option linter.unusedVariables false
set_option linter.unusedSimpArgs false

def tenv (sp n : Nat) (B : TB) (av ev : Value) (root : Nat) : Env :=
  [(0, .pointer (some ⟨sp, 0, none⟩)), (2, av), (3, ev), (5, .pointer (some ⟨B.bI, 0, none⟩)), (6, .pointer (some ⟨B.bL, 0, none⟩)), (7, .pointer (some ⟨B.s + 5, 0, none⟩)), (8, .pointer (some ⟨B.s + 6, 0, none⟩)), (9, .pointer (some ⟨B.s + 8, 0, none⟩)),
   (11, .func (.func 41) #[] #[.pointer (some ⟨B.s + 9, 0, none⟩), .pointer (some ⟨B.bI, 0, none⟩), .pointer (some ⟨B.bL, 0, none⟩), .pointer (some ⟨B.s + 6, 0, none⟩), .pointer (some ⟨B.s + 5, 0, none⟩), .pointer (some ⟨B.s + 8, 0, none⟩)]),
   (35, .int .i64 (n : Int)), (36, .int .i64 (root : Int))]
theorem min_cast (a b : Nat) : (if ((b : Nat) : Int) < ((a : Nat) : Int) then ((b : Nat) : Int) else ((a : Nat) : Int)) = ((if b < a then b else a : Nat) : Int) := by
  split <;> split <;> omega

set_option maxRecDepth 10000 in
theorem popLoop (w : World) (own : Nat → Nat) (B : TB) (hB : B.ok) (n : Nat) (hn : n ≤ 65536) (t : TJ) (sv cv av ev : Value) (m : TMem w.heap own B n t sv cv av ev) (a : Nat) (ha : a ∈ t.stack) (hst : ∀ x ∈ t.stack, x < n) (hsz : t.atoms.length + t.stack.length ≤ n) (sp root : Nat) (k : Ks)
    (hk : ∀ E' w' own' sv' av', SubE ((14, .int .i64 (a : Int)) :: tenv sp n B av' ev root) E' → TMem w'.heap own' B n (popTo a t.stack t) sv' cv av' ev → Fr (fun g => B.s ≤ g) w w' → k.nrm E' w') :
    T Try.prog 243 (C Try.f36 [0, 1, 1, 1, 1, 1, 1, 0, 1, 0, 0, 1, 1, 1, 0, 0, 1, 1, 0, 0, 1, 0, 1, 1, 1, 1, 1, 1, 1, 1, 1]) ((14, .int .i64 (a : Int)) :: tenv sp n B av ev root) w k := by
  refine W_block 5 (by kernel_rfl) ?_
  refine W_loop (ι := TJ × (Nat → Nat) × Value × Value) (fun i w1 => a ∈ i.1.stack ∧ (∀ x ∈ i.1.stack, x < n) ∧ i.1.atoms.length + i.1.stack.length ≤ n ∧ popTo a i.1.stack i.1 = popTo a t.stack t ∧ TMem w1.heap i.2.1 B n i.1 i.2.2.1 cv i.2.2.2 ev ∧ Fr (fun g => B.s ≤ g) w w1) (fun i => (14, .int .i64 (a : Int)) :: tenv sp n B i.2.2.2 ev root) (fun i => i.1.stack.length) (t, own, sv, av) (by kernel_rfl) ?_ ?_ ?_
  · exact ⟨ha, hst, hsz, rfl, m, Fr.refl _ _⟩
  · exact ⟨rfl, rfl, rfl, rfl, rfl, rfl, rfl, rfl, rfl, rfl, rfl, rfl, trivial⟩
  rintro ⟨t1, own1, sv1, av1⟩ w1 ⟨ha1, hst1, hsz1, hpop, m1, hfr⟩
  dsimp only at ha1 hst1 hsz1 hpop m1 ⊢
  cases hs : t1.stack with
  | nil => rw [hs] at ha1; cases ha1
  | cons x st =>
  rw [hs] at ha1 hst1 hsz1 hpop
  rw [List.length_cons] at hsz1
  obtain ⟨g, cap, rfl, hcap, hcel, hvec⟩ := m1.topS hs
  have hx : x < n := hst1 x (List.mem_cons_self ..)
  refine W_block 6 (by kernel_rfl) ?_
  refine W_seq (by kernel_rfl) ?_
  -- R35
  refine W_reg (l := [⟨some 214, Op.load 27 (Operand.tmp 8), 27, none⟩, ⟨some 215, Op.load 27 (Operand.tmp 8), 27, none⟩, ⟨some 216, Op.call { callee := Callee.builtin Builtin.len, args := #[Operand.tmp 215], argTypes := #[27] }, 3, none⟩, ⟨some 217, Op.binOp BinOp.sub 3 (Operand.tmp 216) (Operand.const (Value.int IntKind.i64 1)) 3, 3, none⟩, ⟨some 218, Op.indexAddr 27 (Operand.tmp 214) (Operand.tmp 217), 0, none⟩, ⟨some 219, Op.load 3 (Operand.tmp 218), 3, none⟩, ⟨some 18, Op.assign (Operand.tmp 219), 3, none⟩]) (by kernel_rfl) (by kernel_rfl) ?_
  refine TL_q rfl (QV_load rfl one27 (m1.cS)) ?_
  refine TL_q rfl (QV_load rfl one27 (m1.cS)) ?_
  refine TL_q rfl (QV_len rfl el27) ?_
  refine TL_q rfl (QV_sub (r := ((st.length : Nat) : Int)) rfl rfl (by omega) (by omega) (by omega)) ?_
  refine TL_q rfl (QV_idx1 rfl rfl el27 sz3 (Nat.lt_succ_self _)) ?_
  refine TL_q rfl (QV_load rfl one3 (hcel)) ?_
  refine TL_q rfl (QV_assign rfl) ?_
  refine TL_nil ?_
  refine W_seq (by kernel_rfl) ?_
  -- R36
  refine W_reg (l := [⟨some 220, Op.load 27 (Operand.tmp 8), 27, none⟩, ⟨some 221, Op.load 27 (Operand.tmp 8), 27, none⟩, ⟨some 222, Op.call { callee := Callee.builtin Builtin.len, args := #[Operand.tmp 221], argTypes := #[27] }, 3, none⟩, ⟨some 223, Op.binOp BinOp.sub 3 (Operand.tmp 222) (Operand.const (Value.int IntKind.i64 1)) 3, 3, none⟩, ⟨some 224, Op.slice 27 (Operand.tmp 220) none (some (Operand.tmp 223)) none, 27, none⟩, ⟨none, Op.store 27 (Operand.tmp 8) (Operand.tmp 224), 0, none⟩]) (by kernel_rfl) (by kernel_rfl) ?_
  refine TL_q rfl (QV_load rfl one27 (m1.cS)) ?_
  refine TL_q rfl (QV_load rfl one27 (m1.cS)) ?_
  refine TL_q rfl (QV_len rfl el27) ?_
  refine TL_q rfl (QV_sub (r := ((st.length : Nat) : Int)) rfl rfl (by omega) (by omega) (by omega)) ?_
  refine TL_q rfl (QV_sliceTo rfl rfl el27 sz3 (by omega)) ?_
  refine TL_e (EV_store rfl rfl rfl sz27 m1.boxS (by simp) fun w2 u2 => ?_)
  have m2 : TMem w2.heap own1 B n { t1 with stack := st } _ cv av1 ev := m1.setS hB u2 hvec
  refine TL_nil ?_
  refine W_seq (by kernel_rfl) ?_
  -- R37
  refine W_reg (l := [⟨some 225, Op.load 37 (Operand.tmp 7), 37, none⟩, ⟨some 226, Op.move (Operand.tmp 18), 3, none⟩, ⟨some 227, Op.indexAddr 37 (Operand.tmp 225) (Operand.tmp 226), 0, none⟩, ⟨none, Op.store 4 (Operand.tmp 227) (Operand.const (Value.bool false)), 0, none⟩]) (by kernel_rfl) (by kernel_rfl) ?_
  refine TL_q rfl (QV_load rfl one37 (m2.cO)) ?_
  refine TL_q rfl (QV_move rfl) ?_
  refine TL_q rfl (QV_idx1 rfl rfl el37 sz4 (hx)) ?_
  refine TL_e (EV_store rfl rfl rfl sz4 m2.arrO (by rw [bools_len, m2.nO]; exact hx) fun w3 u3 => ?_)
  have m3 : TMem w3.heap own1 B n { t1 with stack := st, opn := t1.opn.set x false } _ cv av1 ev := m2.setOpn hB u3
  have rA : Row w3.heap 3 1 av1 t1.atoms.length (nats t1.atoms) := m3.vA.row
  refine TL_nil ?_
  refine W_seq (by kernel_rfl) ?_
  -- R38
  refine W_reg (l := [⟨some 228, Op.move (Operand.tmp 2), 27, none⟩, ⟨some 229, Op.move (Operand.tmp 18), 3, none⟩, ⟨some 230, Op.buildSlice 27 1 #[(0, Operand.tmp 229)], 27, none⟩, ⟨some 231, Op.call { callee := Callee.builtin Builtin.append, args := #[Operand.tmp 228, Operand.tmp 230], argTypes := #[27, 27] }, 27, none⟩, ⟨some 2, Op.assign (Operand.tmp 231), 27, none⟩]) (by kernel_rfl) (by kernel_rfl) ?_
  refine TL_q rfl (QV_move rfl) ?_
  refine TL_q rfl (QV_move rfl) ?_
  refine TL_e (EV_lit1 rfl rfl rfl el27 in3 rfl fun w4 h4 => ?_)
  refine TL_e (EV_append rfl rfl rfl el27 in3 rfl (by decide) (rA.fr h4.fr (fun _ _ h => h)) rfl (news1 h4.blk) (one1 rfl) (by omega) (by omega) fun v' w5 hrow h45 hat => ?_)
  have m5 : TMem w5.heap (ownP own1 w3.heap.size 3) B n { t1 with stack := st, opn := t1.opn.set x false, atoms := t1.atoms ++ [x] } _ cv v' ev := m3.pushA hB h4 hrow h45 hat
  have k4 := h4.size
  have k3 := u3.size
  have k2 := u2.size
  have l1 := m1.lt
  have f5 : Fr (fun g => B.s ≤ g) w w5 := (((hfr.trans (u2.fr.mono (by omega))).trans (u3.fr.mono (by omega))).trans (h4.fr.mono (fun _ _ h => h.elim))).trans (h45.mono (fun k _ e => by have := (m3.vA.own _ e).2; omega))
  refine TL_q rfl (QV_assign rfl) ?_
  refine TL_nil ?_
  refine W_seq (by kernel_rfl) ?_
  -- R39
  refine W_reg (l := [⟨some 232, Op.move (Operand.tmp 18), 3, none⟩, ⟨some 233, Op.move (Operand.tmp 14), 3, none⟩, ⟨some 234, Op.binOp BinOp.eql 3 (Operand.tmp 232) (Operand.tmp 233) 3, 4, none⟩]) (by kernel_rfl) (by kernel_rfl) ?_
  refine TL_q rfl (QV_move rfl) ?_
  refine TL_q rfl (QV_move rfl) ?_
  refine TL_q rfl (QV_eql rfl rfl) ?_
  refine TL_nil ?_
  refine W_cond (c := Operand.tmp 234) (by kernel_rfl) rfl (fun hc234 => ?_) (fun hc234 => ?_)
  ·
    have hxa : x = a := by have := of_decide_eq_true hc234; omega
    refine W_exit 5 (by kernel_rfl) ?_
    have mF : TMem w5.heap (ownP own1 w3.heap.size 3) B n (popTo a t.stack t) (.slice (some ⟨g, 0, none⟩) st.length cap) cv v' ev := by rw [← hpop, popTo, if_pos hxa]; exact m5
    exact hk _ _ _ _ _ ⟨rfl, rfl, rfl, rfl, rfl, rfl, rfl, rfl, rfl, rfl, rfl, rfl, trivial⟩ mF f5
  ·
    have hxa : ¬ x = a := by have := of_decide_eq_false hc234; omega
    refine W_skip (by kernel_rfl) ?_
    refine ⟨({ t1 with stack := st, opn := t1.opn.set x false, atoms := t1.atoms ++ [x] }, ownP own1 w3.heap.size 3, .slice (some ⟨g, 0, none⟩) st.length cap, v'), ⟨?_, fun y hy => hst1 y (List.mem_cons_of_mem _ hy), ?_, ?_, m5, f5⟩, ⟨rfl, rfl, rfl, rfl, rfl, rfl, rfl, rfl, rfl, rfl, rfl, rfl, trivial⟩, ?_⟩
    · rcases List.mem_cons.1 ha1 with h | h
      · exact absurd h.symm hxa
      · exact h
    · simp; omega
    · rw [← hpop, popTo, if_neg hxa]
    · simp

set_option maxRecDepth 10000 in
theorem followWalk (w : World) (own : Nat → Nat) (B : TB) (hB : B.ok) (n : Nat) (t : TJ) (sv cv av ev : Value) (m : TMem w.heap own B n t sv cv av ev) (f : Fm) (rest : List Fm) (g cap : Nat) (cs : List Value) (tp : Top w.heap own B cv f rest g cap cs)
    (dep : Nat) (hdep : dep < n) (hfa : f.a < n) (hfi : f.i ≤ 2097152) (b1 : t.visited ≤ 1048576) (b2 : t.stack.length ≤ 1048576) (b3 : (⟨f.a, f.r, f.i + 1⟩ :: rest : List Fm).length ≤ 1048576) (sp root : Nat) (k : Ks)
    (hk : ∀ E' w' own' sv' cv', SubE (tenv sp n B av ev root) E' → TMem w'.heap own' B n (t.follow f rest dep) sv' cv' av ev → Fr (fun g => B.s ≤ g) w w' → lkB k.brk 3 E' w') :
    T Try.prog 243 (C Try.f36 [1, 1, 1, 0, 1, 0, 1, 1, 0, 1, 0, 0, 1, 1, 1, 0, 0, 1, 1, 0, 0, 1, 0, 1, 1, 1, 1, 1, 1, 1, 1, 1]) ((13, .pointer (some ⟨g, rest.length * 3, none⟩)) :: (14, .int .i64 (f.a : Int)) :: (16, .int .i64 (dep : Int)) :: tenv sp n B av ev root) w k := by
  refine W_seq (by kernel_rfl) ?_
  -- R25
  refine W_reg (l := [⟨some 147, Op.move (Operand.tmp 13), 70, none⟩, ⟨some 148, Op.nilCheck (Operand.tmp 147), 0, none⟩, ⟨some 149, Op.fieldAddr 68 (Operand.tmp 148) 2, 0, none⟩, ⟨some 150, Op.load 3 (Operand.tmp 149), 3, none⟩, ⟨some 151, Op.binOp BinOp.add 3 (Operand.tmp 150) (Operand.const (Value.int IntKind.i64 1)) 3, 3, none⟩, ⟨some 152, Op.nilCheck (Operand.tmp 147), 0, none⟩, ⟨some 153, Op.fieldAddr 68 (Operand.tmp 152) 2, 0, none⟩, ⟨none, Op.store 3 (Operand.tmp 153) (Operand.tmp 151), 0, none⟩]) (by kernel_rfl) (by kernel_rfl) ?_
  refine TL_q rfl (QV_move rfl) ?_
  refine TL_q rfl (QV_nil rfl) ?_
  refine TL_q rfl (QV_field rfl fld68_2) ?_
  refine TL_q rfl (QV_load rfl one3 (tp.c2)) ?_
  refine TL_q rfl (QV_add (r := ((f.i + 1 : Nat) : Int)) rfl rfl (by omega) (by omega) (by omega)) ?_
  refine TL_q rfl (QV_nil rfl) ?_
  refine TL_q rfl (QV_field rfl fld68_2) ?_
  refine TL_e (EV_store rfl rfl rfl sz3 tp.blk tp.lt fun w1 u1 => ?_)
  have tp1 := tp.set2 u1
  have m1 : TMem w1.heap own B n { t with calls := ⟨f.a, f.r, f.i + 1⟩ :: rest } sv cv av ev := m.retop hB tp u1 tp1
  have l1 := m1.lt
  have hg := tp.own.2
  have f1 : Fr (fun g => B.s ≤ g) w w1 := u1.fr.mono (by omega)
  refine TL_nil ?_
  refine W_seq (by kernel_rfl) ?_
  refine W_seq (by kernel_rfl) ?_
  -- R26
  refine W_reg (l := [⟨some 154, Op.load 27 (Operand.tmp 5), 27, none⟩, ⟨some 155, Op.move (Operand.tmp 16), 3, none⟩, ⟨some 156, Op.indexAddr 27 (Operand.tmp 154) (Operand.tmp 155), 0, none⟩, ⟨some 157, Op.load 3 (Operand.tmp 156), 3, none⟩, ⟨some 158, Op.binOp BinOp.eql 3 (Operand.tmp 157) (Operand.const (Value.int IntKind.i64 0)) 3, 4, none⟩]) (by kernel_rfl) (by kernel_rfl) ?_
  refine TL_q rfl (QV_load rfl one27 (m1.cI)) ?_
  refine TL_q rfl (QV_move rfl) ?_
  refine TL_q rfl (QV_idx1 rfl rfl el27 sz3 (hdep)) ?_
  refine TL_q rfl (QV_load rfl one3 (m1.gI hdep)) ?_
  refine TL_q rfl (QV_eql rfl rfl) ?_
  refine TL_nil ?_
  refine W_cond (c := Operand.tmp 158) (by kernel_rfl) rfl (fun hc158 => ?_) (fun hc158 => ?_)
  ·
    have hidx : t.index.getD dep 0 = 0 := by have := of_decide_eq_true hc158; dsimp only at this; omega
    -- R27
    refine W_reg (l := [⟨some 159, Op.move (Operand.tmp 11), 69, none⟩, ⟨some 160, Op.move (Operand.tmp 16), 3, none⟩, ⟨some 161, Op.call { callee := Callee.value (Operand.tmp 159), args := #[Operand.tmp 160], argTypes := #[3] }, 0, none⟩]) (by kernel_rfl) (by kernel_rfl) ?_
    refine TL_q rfl (QV_move rfl) ?_
    refine TL_q rfl (QV_move rfl) ?_
    refine TL_e (EV_callC rfl rfl rfl call41 (by simp) (visitWalk w1 own B hB n _ sv cv av ev m1 dep hdep b1 b2 b3) fun r w2 hr => ?_)
    obtain ⟨rfl, f2, own2, sv2, cv2, m2⟩ := hr
    have fF := f1.trans f2
    have eF : t.follow f rest dep = ({ t with calls := ⟨f.a, f.r, f.i + 1⟩ :: rest } : TJ).visit dep := by rw [TJ.follow, if_pos hidx]
    rw [← eF] at m2
    have mF := m2
    refine TL_nil ?_
    refine W_exit 3 (by kernel_rfl) ?_
    exact hk _ _ _ _ _ ⟨rfl, rfl, rfl, rfl, rfl, rfl, rfl, rfl, rfl, rfl, rfl, trivial⟩ mF fF
  ·
    have hidx : ¬ t.index.getD dep 0 = 0 := by have := of_decide_eq_false hc158; dsimp only at this; omega
    refine W_seq (by kernel_rfl) ?_
    -- R28
    refine W_reg (l := [⟨some 162, Op.load 37 (Operand.tmp 7), 37, none⟩, ⟨some 163, Op.move (Operand.tmp 16), 3, none⟩, ⟨some 164, Op.indexAddr 37 (Operand.tmp 162) (Operand.tmp 163), 0, none⟩, ⟨some 165, Op.load 4 (Operand.tmp 164), 4, none⟩]) (by kernel_rfl) (by kernel_rfl) ?_
    refine TL_q rfl (QV_load rfl one37 (m1.cO)) ?_
    refine TL_q rfl (QV_move rfl) ?_
    refine TL_q rfl (QV_idx1 rfl rfl el37 sz4 (hdep)) ?_
    refine TL_q rfl (QV_load rfl one4 (m1.gO hdep)) ?_
    refine TL_nil ?_
    refine W_cond (c := Operand.tmp 165) (by kernel_rfl) rfl (fun hc165 => ?_) (fun hc165 => ?_)
    ·
      have hop : t.opn.getD dep false = true := hc165
      -- R29
      refine W_regTail (l1 := [⟨some 166, Op.load 27 (Operand.tmp 6), 27, none⟩, ⟨some 167, Op.move (Operand.tmp 14), 3, none⟩, ⟨some 168, Op.load 27 (Operand.tmp 6), 27, none⟩, ⟨some 169, Op.move (Operand.tmp 14), 3, none⟩, ⟨some 170, Op.indexAddr 27 (Operand.tmp 168) (Operand.tmp 169), 0, none⟩, ⟨some 171, Op.load 3 (Operand.tmp 170), 3, none⟩, ⟨some 172, Op.load 27 (Operand.tmp 5), 27, none⟩, ⟨some 173, Op.move (Operand.tmp 16), 3, none⟩, ⟨some 174, Op.indexAddr 27 (Operand.tmp 172) (Operand.tmp 173), 0, none⟩, ⟨some 175, Op.load 3 (Operand.tmp 174), 3, none⟩, ⟨some 176, Op.call { callee := Callee.builtin Builtin.min, args := #[Operand.tmp 171, Operand.tmp 175], argTypes := #[3, 3] }, 3, none⟩, ⟨some 177, Op.indexAddr 27 (Operand.tmp 166) (Operand.tmp 167), 0, none⟩]) (l2 := [⟨none, Op.store 3 (Operand.tmp 177) (Operand.tmp 176), 0, none⟩]) mix (by kernel_rfl) (by kernel_rfl) (by kernel_rfl) ?_
      refine TS_q rfl (QV_load rfl one27 (m1.cL)) ?_
      refine TS_q rfl (QV_move rfl) ?_
      refine TS_q rfl (QV_load rfl one27 (m1.cL)) ?_
      refine TS_q rfl (QV_move rfl) ?_
      refine TS_q rfl (QV_idx1 rfl rfl el27 sz3 (hfa)) ?_
      refine TS_q rfl (QV_load rfl one3 (m1.gL hfa)) ?_
      refine TS_q rfl (QV_load rfl one27 (m1.cI)) ?_
      refine TS_q rfl (QV_move rfl) ?_
      refine TS_q rfl (QV_idx1 rfl rfl el27 sz3 (hdep)) ?_
      refine TS_q rfl (QV_load rfl one3 (m1.gI hdep)) ?_
      refine TS_q rfl (QV_min rfl rfl) ?_
      refine TS_q rfl (QV_idx1 rfl rfl el27 sz3 (hfa)) ?_
      refine TS_nil ?_
      refine TL_e (EV_store rfl rfl rfl sz3 m1.arrL (by rw [nats_len, m1.nL]; exact hfa) fun w2 u2 => ?_)
      rw [min_cast] at u2
      have m2 := m1.setLow hB u2
      have i2 := hB.i2
      have fF := f1.trans (u2.fr.mono (Y := fun g => B.s ≤ g) (by omega))
      have eF : t.follow f rest dep = { t with calls := ⟨f.a, f.r, f.i + 1⟩ :: rest, low := t.low.set f.a (if t.index.getD dep 0 < t.low.getD f.a 0 then t.index.getD dep 0 else t.low.getD f.a 0) } := by rw [TJ.follow, if_neg hidx, if_pos hop]
      have mF : TMem w2.heap own B n (t.follow f rest dep) sv cv av ev := by rw [eF]; exact m2
      refine TL_nil ?_
      refine W_exit 3 (by kernel_rfl) ?_
      exact hk _ _ _ _ _ ⟨rfl, rfl, rfl, rfl, rfl, rfl, rfl, rfl, rfl, rfl, rfl, trivial⟩ mF fF
    ·
      have hop : ¬ t.opn.getD dep false = true := by rw [show t.opn.getD dep false = false from hc165]; decide
      have fF := f1
      have eF : t.follow f rest dep = { t with calls := ⟨f.a, f.r, f.i + 1⟩ :: rest } := by rw [TJ.follow, if_neg hidx, if_neg hop]
      have mF := m1
      rw [← eF] at mF
      refine W_skip (by kernel_rfl) ?_
      refine W_exit 3 (by kernel_rfl) ?_
      exact hk _ _ _ _ _ ⟨rfl, rfl, rfl, rfl, rfl, rfl, rfl, rfl, rfl, rfl, rfl, trivial⟩ mF fF

theorem popTo_same (a : Nat) (st : List Nat) (t : TJ) : (popTo a st t).ends = t.ends ∧ (popTo a st t).calls = t.calls ∧ (popTo a st t).index = t.index ∧ (popTo a st t).low = t.low ∧ (popTo a st t).visited = t.visited := by
  induction st generalizing t with
  | nil => exact ⟨rfl, rfl, rfl, rfl, rfl⟩
  | cons x st ih =>
    rw [popTo]
    split
    · exact ⟨rfl, rfl, rfl, rfl, rfl⟩
    · have := ih { t with stack := st, opn := t.opn.set x false, atoms := t.atoms ++ [x] }
      exact this
set_option maxRecDepth 10000 in
set_option maxHeartbeats 1000000 in
theorem roundWalk (w : World) (own : Nat → Nat) (B : TB) (hB : B.ok) (n : Nat) (hn : n ≤ 65536) (D : List Rl) (hok : Okay n D) (hl : D.length + tot (D.map Rl.rd) ≤ 1048576) (t : TJ) (sv cv av ev : Value) (m : TMem w.heap own B n t sv cv av ev) (safe : Safe n t) (f : Fm) (rest : List Fm) (hcalls : t.calls = f :: rest)
    (sp rs ru bb root : Nat) (hs0 : cel w.heap sp 0 = some (.pointer (some ⟨rs, 0, none⟩))) (hs1 : cel w.heap sp 1 = some (.slice (some ⟨bb, 0, none⟩) n n)) (hr1 : cel w.heap rs 1 = some (.slice (some ⟨ru, 0, none⟩) D.length D.length)) (S : Nat → Prop)
    (hrow : ∀ a, a < n → ∃ ra rc, cel w.heap bb a = some (.slice ra ((idxH D n D.length).getD a []).length rc) ∧ ((idxH D n D.length).getD a []).length ≤ rc ∧
      (0 < ((idxH D n D.length).getD a []).length → ∃ b' o, ra = some ⟨b', o, none⟩ ∧ S b' ∧ ∀ j, j < ((idxH D n D.length).getD a []).length → cel w.heap b' (o + j) = some (.int .i64 ((((idxH D n D.length).getD a []).getD j 0 : Nat) : Int))))
    (hrule : ∀ r, r < D.length → cel w.heap ru (r * 3) = some (.int .i64 (((D.getD r rl0).head : Nat) : Int)) ∧
      ∃ va vu, cel w.heap ru (r * 3 + 1) = some va ∧ cel w.heap ru (r * 3 + 2) = some vu ∧ IntsAt w.heap S va (casts (D.getD r rl0).all) ∧ IntsAt w.heap S vu (casts (D.getD r rl0).unl))
    (k : Ks) (hk : ∀ E' w' own' sv' cv' av' ev', SubE (tenv sp n B av' ev' root) E' → TMem w'.heap own' B n (tstep D n t) sv' cv' av' ev' → Fr (fun g => B.s ≤ g) w w' → k.nrm E' w') :
    T Try.prog 243 (C Try.f36 [1, 0, 0, 1, 1, 1, 0, 0, 1, 1, 0, 0, 1, 0, 1, 1, 1, 1, 1, 1, 1, 1, 1]) (tenv sp n B av ev root) w k := by
  obtain ⟨g, cap, cs, tp⟩ := m.top hcalls
  have hv := tp.v
  subst hv
  have hfa : f.a < n := safe.fa f (by rw [hcalls]; simp)
  have hnc := safe.nc
  rw [hcalls, List.length_cons] at hnc
  have hns := safe.ns
  have hnv := safe.nv
  have htn := tp.n1
  obtain ⟨ra, rc, hrowc, hrlen, hrp⟩ := hrow f.a hfa
  have hsh := idxH_short D n D.length f.a
  refine W_block 3 (by kernel_rfl) ?_
  refine W_seq (by kernel_rfl) ?_
  -- R15
  refine W_reg (l := [⟨some 50, Op.load 66 (Operand.tmp 9), 66, none⟩, ⟨some 51, Op.load 66 (Operand.tmp 9), 66, none⟩, ⟨some 52, Op.call { callee := Callee.builtin Builtin.len, args := #[Operand.tmp 51], argTypes := #[66] }, 3, none⟩, ⟨some 53, Op.binOp BinOp.sub 3 (Operand.tmp 52) (Operand.const (Value.int IntKind.i64 1)) 3, 3, none⟩, ⟨some 54, Op.indexAddr 66 (Operand.tmp 50) (Operand.tmp 53), 0, none⟩, ⟨some 13, Op.assign (Operand.tmp 54), 70, none⟩]) (by kernel_rfl) (by kernel_rfl) ?_
  refine TL_q rfl (QV_load rfl one66 (m.cC)) ?_
  refine TL_q rfl (QV_load rfl one66 (m.cC)) ?_
  refine TL_q rfl (QV_len rfl el66) ?_
  refine TL_q rfl (QV_sub (r := ((rest.length : Nat) : Int)) rfl rfl (by omega) (by omega) (by omega)) ?_
  refine TL_q rfl (QV_idx3 rfl rfl el66 sz68 (Nat.lt_succ_self _)) ?_
  refine TL_q rfl (QV_assign rfl) ?_
  refine TL_nil ?_
  refine W_seq (by kernel_rfl) ?_
  -- R16
  refine W_reg (l := [⟨some 55, Op.move (Operand.tmp 13), 70, none⟩, ⟨some 56, Op.nilCheck (Operand.tmp 55), 0, none⟩, ⟨some 57, Op.fieldAddr 68 (Operand.tmp 56) 0, 0, none⟩, ⟨some 58, Op.load 3 (Operand.tmp 57), 3, none⟩, ⟨some 14, Op.assign (Operand.tmp 58), 3, none⟩]) (by kernel_rfl) (by kernel_rfl) ?_
  refine TL_q rfl (QV_move rfl) ?_
  refine TL_q rfl (QV_nil rfl) ?_
  refine TL_q rfl (QV_field0 rfl fld68_0) ?_
  refine TL_q rfl (QV_load rfl one3 (tp.c0)) ?_
  refine TL_q rfl (QV_assign rfl) ?_
  refine TL_nil ?_
  refine W_seq (by kernel_rfl) ?_
  refine W_seq (by kernel_rfl) ?_
  -- R17
  refine W_regQ (l := [⟨some 59, Op.move (Operand.tmp 13), 70, none⟩, ⟨some 60, Op.nilCheck (Operand.tmp 59), 0, none⟩, ⟨some 61, Op.fieldAddr 68 (Operand.tmp 60) 1, 0, none⟩, ⟨some 62, Op.load 3 (Operand.tmp 61), 3, none⟩, ⟨some 63, Op.move (Operand.tmp 0), 25, none⟩, ⟨some 64, Op.nilCheck (Operand.tmp 63), 0, none⟩, ⟨some 65, Op.fieldAddr 61 (Operand.tmp 64) 1, 0, none⟩, ⟨some 66, Op.load 34 (Operand.tmp 65), 34, none⟩, ⟨some 67, Op.move (Operand.tmp 14), 3, none⟩, ⟨some 68, Op.indexAddr 34 (Operand.tmp 66) (Operand.tmp 67), 0, none⟩, ⟨some 69, Op.load 27 (Operand.tmp 68), 27, none⟩, ⟨some 70, Op.call { callee := Callee.builtin Builtin.len, args := #[Operand.tmp 69], argTypes := #[27] }, 3, none⟩, ⟨some 71, Op.binOp BinOp.lss 3 (Operand.tmp 62) (Operand.tmp 70) 3, 4, none⟩]) mix (by kernel_rfl) (by kernel_rfl) (by kernel_rfl) ?_
  refine TQ_q rfl (QV_move rfl) ?_
  refine TQ_q rfl (QV_nil rfl) ?_
  refine TQ_q rfl (QV_field rfl fld68_1) ?_
  refine TQ_q rfl (QV_load rfl one3 (tp.c1)) ?_
  refine TQ_q rfl (QV_move rfl) ?_
  refine TQ_q rfl (QV_nil rfl) ?_
  refine TQ_q rfl (QV_field rfl fld61_1) ?_
  refine TQ_q rfl (QV_load rfl one34 (hs1)) ?_
  refine TQ_q rfl (QV_move rfl) ?_
  refine TQ_q rfl (QV_idx1 rfl rfl el34 sz27 (hfa)) ?_
  refine TQ_q rfl (QV_load rfl one27 (hrowc)) ?_
  refine TQ_q rfl (QV_len rfl el27) ?_
  refine TQ_q rfl (QV_lss rfl rfl) ?_
  refine TQ_nil ?_
  refine W_cond (c := Operand.tmp 71) (by kernel_rfl) rfl (fun hc71 => ?_) (fun hc71 => ?_)
  ·
    have hr : f.r < ((idxH D n D.length).getD f.a []).length := by have := of_decide_eq_true hc71; omega
    obtain ⟨rb, ro, rfl, hrbs, hrcel⟩ := hrp (by omega)
    have hrr : ((idxH D n D.length).getD f.a []).getD f.r 0 < D.length := idxH_lt D n D.length f.a _ (getD_mem 0 hr)
    obtain ⟨q7, va, vu, q8, q9, hva, hvu⟩ := hrule _ hrr
    obtain ⟨aa, ca, rfl, hca, hpa⟩ := hva.nat
    obtain ⟨au, cu, rfl, hcu, hpu⟩ := hvu.nat
    have hokk := hok _ (getD_mem rl0 hrr)
    have htt := totD D _ hrr
    have htl := tot_take_le (D.map Rl.rd) (((idxH D n D.length).getD f.a []).getD f.r 0 + 1)
    have q1 := hs0
    have q2 := hr1
    have q3 := hs1
    have q4 := hrowc
    have q5 := tp.c1
    have q6 := hrcel f.r hr
    have hS0 := And.intro q1 (And.intro q2 (And.intro q3 (And.intro q4 (And.intro q5 (And.intro q6 (And.intro q7 (And.intro q8 q9)))))))
    have l1 := cel_lt q1
    have l2 := cel_lt q2
    have l3 := cel_lt q3
    have l4 := cel_lt q4
    have l5 := cel_lt q5
    have l6 := cel_lt q6
    have l7 := cel_lt q7
    refine W_seq (by kernel_rfl) ?_
    -- R18
    refine W_regH (fun h => cel h sp 0 = some (.pointer (some ⟨rs, 0, none⟩)) ∧ cel h rs 1 = some (.slice (some ⟨ru, 0, none⟩) D.length D.length) ∧ cel h sp 1 = some (.slice (some ⟨bb, 0, none⟩) n n) ∧ cel h bb f.a = some (.slice (some ⟨rb, ro, none⟩) ((idxH D n D.length).getD f.a []).length rc) ∧ cel h g (rest.length * 3 + 1) = some (.int .i64 (f.r : Int)) ∧ cel h rb (ro + f.r) = some (.int .i64 ((((idxH D n D.length).getD f.a []).getD f.r 0 : Nat) : Int)) ∧ cel h ru (((idxH D n D.length).getD f.a []).getD f.r 0 * 3) = some (.int .i64 (((D.getD (((idxH D n D.length).getD f.a []).getD f.r 0) rl0).head : Nat) : Int)) ∧ cel h ru (((idxH D n D.length).getD f.a []).getD f.r 0 * 3 + 1) = some (.slice aa (D.getD (((idxH D n D.length).getD f.a []).getD f.r 0) rl0).all.length ca) ∧ cel h ru (((idxH D n D.length).getD f.a []).getD f.r 0 * 3 + 2) = some (.slice au (D.getD (((idxH D n D.length).getD f.a []).getD f.r 0) rl0).unl.length cu)) (l := [(0, true, ⟨some 72, Op.move (Operand.tmp 0), 25, none⟩), (1, true, ⟨some 73, Op.nilCheck (Operand.tmp 72), 0, none⟩), (2, true, ⟨some 74, Op.fieldAddr 61 (Operand.tmp 73) 0, 0, none⟩), (3, true, ⟨some 75, Op.load 59 (Operand.tmp 74), 59, none⟩), (4, true, ⟨some 76, Op.nilCheck (Operand.tmp 75), 0, none⟩), (5, true, ⟨some 77, Op.fieldAddr 65 (Operand.tmp 76) 1, 0, none⟩), (6, true, ⟨some 78, Op.load 53 (Operand.tmp 77), 53, none⟩), (7, true, ⟨some 79, Op.move (Operand.tmp 0), 25, none⟩), (8, true, ⟨some 80, Op.nilCheck (Operand.tmp 79), 0, none⟩), (9, true, ⟨some 81, Op.fieldAddr 61 (Operand.tmp 80) 1, 0, none⟩), (10, true, ⟨some 82, Op.load 34 (Operand.tmp 81), 34, none⟩), (11, true, ⟨some 83, Op.move (Operand.tmp 14), 3, none⟩), (12, true, ⟨some 84, Op.indexAddr 34 (Operand.tmp 82) (Operand.tmp 83), 0, none⟩), (13, true, ⟨some 85, Op.load 27 (Operand.tmp 84), 27, none⟩), (14, true, ⟨some 86, Op.move (Operand.tmp 13), 70, none⟩), (15, true, ⟨some 87, Op.nilCheck (Operand.tmp 86), 0, none⟩), (16, true, ⟨some 88, Op.fieldAddr 68 (Operand.tmp 87) 1, 0, none⟩), (17, true, ⟨some 89, Op.load 3 (Operand.tmp 88), 3, none⟩), (18, true, ⟨some 90, Op.indexAddr 27 (Operand.tmp 85) (Operand.tmp 89), 0, none⟩), (19, true, ⟨some 91, Op.load 3 (Operand.tmp 90), 3, none⟩), (20, true, ⟨some 92, Op.indexAddr 53 (Operand.tmp 78) (Operand.tmp 91), 0, none⟩), (21, true, ⟨some 93, Op.load 54 (Operand.tmp 92), 54, none⟩), (22, false, ⟨some 15, Op.alloc 54, 0, none⟩), (23, false, ⟨none, Op.store 54 (Operand.tmp 15) (Operand.tmp 93), 0, none⟩)]) mix (by kernel_rfl) (by kernel_rfl) (by kernel_rfl) ⟨by kernel_rfl, by kernel_rfl, ⟨by kernel_rfl, by kernel_rfl, ⟨by kernel_rfl, by kernel_rfl, ⟨by kernel_rfl, by kernel_rfl, ⟨by kernel_rfl, by kernel_rfl, ⟨by kernel_rfl, by kernel_rfl, ⟨by kernel_rfl, by kernel_rfl, ⟨by kernel_rfl, by kernel_rfl, ⟨by kernel_rfl, by kernel_rfl, ⟨by kernel_rfl, by kernel_rfl, ⟨by kernel_rfl, by kernel_rfl, ⟨by kernel_rfl, by kernel_rfl, ⟨by kernel_rfl, by kernel_rfl, ⟨by kernel_rfl, by kernel_rfl, ⟨by kernel_rfl, by kernel_rfl, ⟨by kernel_rfl, by kernel_rfl, ⟨by kernel_rfl, by kernel_rfl, ⟨by kernel_rfl, by kernel_rfl, ⟨by kernel_rfl, by kernel_rfl, ⟨by kernel_rfl, by kernel_rfl, ⟨by kernel_rfl, by kernel_rfl, ⟨by kernel_rfl, by kernel_rfl, ⟨by kernel_rfl, by kernel_rfl, ⟨by kernel_rfl, by kernel_rfl, ordOk_nil (by kernel_rfl)⟩⟩⟩⟩⟩⟩⟩⟩⟩⟩⟩⟩⟩⟩⟩⟩⟩⟩⟩⟩⟩⟩⟩⟩ hS0 ?_
    refine TH_q rfl (fun _ hS => QV_move rfl) ?_
    refine TH_q rfl (fun _ hS => QV_nil rfl) ?_
    refine TH_q rfl (fun _ hS => QV_field0 rfl fld61_0) ?_
    refine TH_q rfl (fun _ hS => QV_load rfl one59 (hS.1)) ?_
    refine TH_q rfl (fun _ hS => QV_nil rfl) ?_
    refine TH_q rfl (fun _ hS => QV_field rfl fld65_1) ?_
    refine TH_q rfl (fun _ hS => QV_load rfl one53 (hS.2.1)) ?_
    refine TH_q rfl (fun _ hS => QV_move rfl) ?_
    refine TH_q rfl (fun _ hS => QV_nil rfl) ?_
    refine TH_q rfl (fun _ hS => QV_field rfl fld61_1) ?_
    refine TH_q rfl (fun _ hS => QV_load rfl one34 (hS.2.2.1)) ?_
    refine TH_q rfl (fun _ hS => QV_move rfl) ?_
    refine TH_q rfl (fun _ hS => QV_idx1 rfl rfl el34 sz27 (hfa)) ?_
    refine TH_q rfl (fun _ hS => QV_load rfl one27 (hS.2.2.2.1)) ?_
    refine TH_q rfl (fun _ hS => QV_move rfl) ?_
    refine TH_q rfl (fun _ hS => QV_nil rfl) ?_
    refine TH_q rfl (fun _ hS => QV_field rfl fld68_1) ?_
    refine TH_q rfl (fun _ hS => QV_load rfl one3 (hS.2.2.2.2.1)) ?_
    refine TH_q rfl (fun _ hS => QV_idxO rfl rfl el27 sz3 (hr)) ?_
    refine TH_q rfl (fun _ hS => QV_load rfl one3 (hS.2.2.2.2.2.1)) ?_
    refine TH_q rfl (fun _ hS => QV_idx3 rfl rfl el53 sz54 (hrr)) ?_
    refine TH_q rfl (fun _ hS => QV_load3 rfl Try.underlying54 sz54 hS.2.2.2.2.2.2.1 hS.2.2.2.2.2.2.2.1 hS.2.2.2.2.2.2.2.2) ?_
    refine TH_e rfl (EV_alloc rfl in54 fun w2 h2 => ?_)
    refine ⟨⟨cel_fr q1 h2.fr (fun h => h), cel_fr q2 h2.fr (fun h => h), cel_fr q3 h2.fr (fun h => h), cel_fr q4 h2.fr (fun h => h), cel_fr q5 h2.fr (fun h => h), cel_fr q6 h2.fr (fun h => h), cel_fr q7 h2.fr (fun h => h), cel_fr q8 h2.fr (fun h => h), cel_fr q9 h2.fr (fun h => h)⟩, ?_⟩
    have hb2 : Blk w2.heap w.heap.size 54 [.int .i64 0, .slice none 0 0, .slice none 0 0] := h2.blk
    refine TH_e rfl (EV_store3 rfl rfl rfl rfl rfl sz54 hb2 (by decide) fun w3 u3 => ?_)
    refine ⟨⟨cel_fr (cel_fr q1 h2.fr (fun h => h)) u3.fr (by omega), cel_fr (cel_fr q2 h2.fr (fun h => h)) u3.fr (by omega), cel_fr (cel_fr q3 h2.fr (fun h => h)) u3.fr (by omega), cel_fr (cel_fr q4 h2.fr (fun h => h)) u3.fr (by omega), cel_fr (cel_fr q5 h2.fr (fun h => h)) u3.fr (by omega), cel_fr (cel_fr q6 h2.fr (fun h => h)) u3.fr (by omega), cel_fr (cel_fr q7 h2.fr (fun h => h)) u3.fr (by omega), cel_fr (cel_fr q8 h2.fr (fun h => h)) u3.fr (by omega), cel_fr (cel_fr q9 h2.fr (fun h => h)) u3.fr (by omega)⟩, ?_⟩
    have hru : Blk w3.heap w.heap.size 54 [.int .i64 (((D.getD (((idxH D n D.length).getD f.a []).getD f.r 0) rl0).head : Nat) : Int), .slice aa (D.getD (((idxH D n D.length).getD f.a []).getD f.r 0) rl0).all.length ca, .slice au (D.getD (((idxH D n D.length).getD f.a []).getD f.r 0) rl0).unl.length cu] := u3.blk
    have c1 : cel w3.heap w.heap.size 1 = some (.slice aa (D.getD (((idxH D n D.length).getD f.a []).getD f.r 0) rl0).all.length ca) := by rw [hru.cel]; rfl
    have c2 : cel w3.heap w.heap.size 2 = some (.slice au (D.getD (((idxH D n D.length).getD f.a []).getD f.r 0) rl0).unl.length cu) := by rw [hru.cel]; rfl
    have m3 := (m.newb h2).upd_new (Nat.le_refl _) m u3
    have tp3 := (tp.fr h2.fr (fun h => h)).fr u3.fr (by omega)
    have z2 := h2.size
    have z3 := u3.size
    have lm := m.lt
    have f3 : Fr (fun g => B.s ≤ g) w w3 := (h2.fr.mono (fun _ _ h => h.elim)).trans (u3.fr.mono (by omega))
    have f30 : Fr (fun _ => False) w w3 := ((Fr.refl _ w).newb h2).upd u3 (Nat.le_refl _)
    obtain ⟨rl, hrl⟩ : ∃ rl, D.getD (((idxH D n D.length).getD f.a []).getD f.r 0) rl0 = rl := ⟨_, rfl⟩
    rw [hrl] at c1 c2 htt hokk hpa hpu hca hcu
    refine TH_nil ?_
    refine W_seq (by kernel_rfl) ?_
    -- R19
    refine W_reg (l := [⟨some 16, Op.assign (Operand.const (Value.int IntKind.i64 0)), 3, none⟩]) (by kernel_rfl) (by kernel_rfl) ?_
    refine TL_q rfl (QV_assign rfl) ?_
    refine TL_nil ?_
    refine W_seq (by kernel_rfl) ?_
    refine W_block 4 (by kernel_rfl) ?_
    refine W_seq (by kernel_rfl) ?_
    -- R21
    refine W_regQ (l := [⟨some 106, Op.move (Operand.tmp 13), 70, none⟩, ⟨some 107, Op.nilCheck (Operand.tmp 106), 0, none⟩, ⟨some 108, Op.fieldAddr 68 (Operand.tmp 107) 2, 0, none⟩, ⟨some 109, Op.load 3 (Operand.tmp 108), 3, none⟩, ⟨some 110, Op.fieldAddr 54 (Operand.tmp 15) 1, 0, none⟩, ⟨some 111, Op.load 27 (Operand.tmp 110), 27, none⟩, ⟨some 112, Op.call { callee := Callee.builtin Builtin.len, args := #[Operand.tmp 111], argTypes := #[27] }, 3, none⟩, ⟨some 113, Op.binOp BinOp.lss 3 (Operand.tmp 109) (Operand.tmp 112) 3, 4, none⟩, ⟨some 105, Op.assign (Operand.tmp 113), 4, none⟩]) mix (by kernel_rfl) (by kernel_rfl) (by kernel_rfl) ?_
    refine TQ_q rfl (QV_move rfl) ?_
    refine TQ_q rfl (QV_nil rfl) ?_
    refine TQ_q rfl (QV_field rfl fld68_2) ?_
    refine TQ_q rfl (QV_load rfl one3 (tp3.c2)) ?_
    refine TQ_q rfl (QV_field rfl fld54_1) ?_
    refine TQ_q rfl (QV_load rfl one27 (c1)) ?_
    refine TQ_q rfl (QV_len rfl el27) ?_
    refine TQ_q rfl (QV_lss rfl rfl) ?_
    refine TQ_q rfl (QV_assign rfl) ?_
    refine TQ_nil ?_
    refine W_cond (c := Operand.tmp 105) (by kernel_rfl) rfl (fun hc105 => ?_) (fun hc105 => ?_)
    ·
      have hi : f.i < rl.all.length := by have := of_decide_eq_true hc105; omega
      obtain ⟨ab, ao, rfl, hab, hacel⟩ := hpa (by omega)
      -- R22
      refine W_regQ (l := [⟨some 114, Op.fieldAddr 54 (Operand.tmp 15) 1, 0, none⟩, ⟨some 115, Op.load 27 (Operand.tmp 114), 27, none⟩, ⟨some 116, Op.move (Operand.tmp 13), 70, none⟩, ⟨some 117, Op.nilCheck (Operand.tmp 116), 0, none⟩, ⟨some 118, Op.fieldAddr 68 (Operand.tmp 117) 2, 0, none⟩, ⟨some 119, Op.load 3 (Operand.tmp 118), 3, none⟩, ⟨some 120, Op.indexAddr 27 (Operand.tmp 115) (Operand.tmp 119), 0, none⟩, ⟨some 121, Op.load 3 (Operand.tmp 120), 3, none⟩, ⟨some 16, Op.assign (Operand.tmp 121), 3, none⟩]) mix (by kernel_rfl) (by kernel_rfl) (by kernel_rfl) ?_
      refine TQ_q rfl (QV_field rfl fld54_1) ?_
      refine TQ_q rfl (QV_load rfl one27 (c1)) ?_
      refine TQ_q rfl (QV_move rfl) ?_
      refine TQ_q rfl (QV_nil rfl) ?_
      refine TQ_q rfl (QV_field rfl fld68_2) ?_
      refine TQ_q rfl (QV_load rfl one3 (tp3.c2)) ?_
      refine TQ_q rfl (QV_idxO rfl rfl el27 sz3 (hi)) ?_
      refine TQ_q rfl (QV_load rfl one3 (cel_fr (hacel _ hi) f30 (fun h => h))) ?_
      refine TQ_q rfl (QV_assign rfl) ?_
      refine TQ_nil ?_
      refine T.env (followWalk w3 own B hB n t sv _ av ev m3 f rest g cap cs tp3 (rl.all.getD f.i 0) (hokk.2.1 _ (getD_mem 0 hi)) hfa (by omega) (by omega) (by omega) (by simp; omega) sp root _ ?_) ⟨rfl, rfl, rfl, ⟨rfl, rfl, rfl, rfl, rfl, rfl, rfl, rfl, rfl, rfl, rfl, trivial⟩⟩
      intro E' w' own' sv' cv' hsub hm hf
      have hm' : TMem w'.heap own' B n (tstep D n t) sv' cv' av ev := by
        rw [tstep, hcalls]
        simp only [if_pos hr, hrl, if_pos hi]
        exact hm
      exact hk _ _ _ _ _ _ _ hsub hm' (f3.trans hf)
    ·
      have hi : ¬ f.i < rl.all.length := by have := of_decide_eq_false hc105; omega
      refine W_seq (by kernel_rfl) ?_
      -- R23
      refine W_regQ (l := [⟨some 123, Op.move (Operand.tmp 13), 70, none⟩, ⟨some 124, Op.nilCheck (Operand.tmp 123), 0, none⟩, ⟨some 125, Op.fieldAddr 68 (Operand.tmp 124) 2, 0, none⟩, ⟨some 126, Op.load 3 (Operand.tmp 125), 3, none⟩, ⟨some 127, Op.fieldAddr 54 (Operand.tmp 15) 1, 0, none⟩, ⟨some 128, Op.load 27 (Operand.tmp 127), 27, none⟩, ⟨some 129, Op.call { callee := Callee.builtin Builtin.len, args := #[Operand.tmp 128], argTypes := #[27] }, 3, none⟩, ⟨some 130, Op.fieldAddr 54 (Operand.tmp 15) 2, 0, none⟩, ⟨some 131, Op.load 27 (Operand.tmp 130), 27, none⟩, ⟨some 132, Op.call { callee := Callee.builtin Builtin.len, args := #[Operand.tmp 131], argTypes := #[27] }, 3, none⟩, ⟨some 133, Op.binOp BinOp.add 3 (Operand.tmp 129) (Operand.tmp 132) 3, 3, none⟩, ⟨some 134, Op.binOp BinOp.lss 3 (Operand.tmp 126) (Operand.tmp 133) 3, 4, none⟩, ⟨some 122, Op.assign (Operand.tmp 134), 4, none⟩]) mix (by kernel_rfl) (by kernel_rfl) (by kernel_rfl) ?_
      refine TQ_q rfl (QV_move rfl) ?_
      refine TQ_q rfl (QV_nil rfl) ?_
      refine TQ_q rfl (QV_field rfl fld68_2) ?_
      refine TQ_q rfl (QV_load rfl one3 (tp3.c2)) ?_
      refine TQ_q rfl (QV_field rfl fld54_1) ?_
      refine TQ_q rfl (QV_load rfl one27 (c1)) ?_
      refine TQ_q rfl (QV_len rfl el27) ?_
      refine TQ_q rfl (QV_field rfl fld54_2) ?_
      refine TQ_q rfl (QV_load rfl one27 (c2)) ?_
      refine TQ_q rfl (QV_len rfl el27) ?_
      refine TQ_q rfl (QV_add (r := ((rl.all.length + rl.unl.length : Nat) : Int)) rfl rfl (by omega) (by omega) (by omega)) ?_
      refine TQ_q rfl (QV_lss rfl rfl) ?_
      refine TQ_q rfl (QV_assign rfl) ?_
      refine TQ_nil ?_
      refine W_cond (c := Operand.tmp 122) (by kernel_rfl) rfl (fun hc122 => ?_) (fun hc122 => ?_)
      ·
        have hi2 : f.i < rl.all.length + rl.unl.length := by have := of_decide_eq_true hc122; omega
        obtain ⟨ab, ao, rfl, hab, hacel⟩ := hpu (by omega)
        have hi3 : f.i - rl.all.length < rl.unl.length := by omega
        -- R24
        refine W_regQ (l := [⟨some 135, Op.fieldAddr 54 (Operand.tmp 15) 2, 0, none⟩, ⟨some 136, Op.load 27 (Operand.tmp 135), 27, none⟩, ⟨some 137, Op.move (Operand.tmp 13), 70, none⟩, ⟨some 138, Op.nilCheck (Operand.tmp 137), 0, none⟩, ⟨some 139, Op.fieldAddr 68 (Operand.tmp 138) 2, 0, none⟩, ⟨some 140, Op.load 3 (Operand.tmp 139), 3, none⟩, ⟨some 141, Op.fieldAddr 54 (Operand.tmp 15) 1, 0, none⟩, ⟨some 142, Op.load 27 (Operand.tmp 141), 27, none⟩, ⟨some 143, Op.call { callee := Callee.builtin Builtin.len, args := #[Operand.tmp 142], argTypes := #[27] }, 3, none⟩, ⟨some 144, Op.binOp BinOp.sub 3 (Operand.tmp 140) (Operand.tmp 143) 3, 3, none⟩, ⟨some 145, Op.indexAddr 27 (Operand.tmp 136) (Operand.tmp 144), 0, none⟩, ⟨some 146, Op.load 3 (Operand.tmp 145), 3, none⟩, ⟨some 16, Op.assign (Operand.tmp 146), 3, none⟩]) mix (by kernel_rfl) (by kernel_rfl) (by kernel_rfl) ?_
        refine TQ_q rfl (QV_field rfl fld54_2) ?_
        refine TQ_q rfl (QV_load rfl one27 (c2)) ?_
        refine TQ_q rfl (QV_move rfl) ?_
        refine TQ_q rfl (QV_nil rfl) ?_
        refine TQ_q rfl (QV_field rfl fld68_2) ?_
        refine TQ_q rfl (QV_load rfl one3 (tp3.c2)) ?_
        refine TQ_q rfl (QV_field rfl fld54_1) ?_
        refine TQ_q rfl (QV_load rfl one27 (c1)) ?_
        refine TQ_q rfl (QV_len rfl el27) ?_
        refine TQ_q rfl (QV_sub (r := ((f.i - rl.all.length : Nat) : Int)) rfl rfl (by omega) (by omega) (by omega)) ?_
        refine TQ_q rfl (QV_idxO rfl rfl el27 sz3 (hi3)) ?_
        refine TQ_q rfl (QV_load rfl one3 (cel_fr (hacel _ hi3) f30 (fun h => h))) ?_
        refine TQ_q rfl (QV_assign rfl) ?_
        refine TQ_nil ?_
        refine T.env (followWalk w3 own B hB n t sv _ av ev m3 f rest g cap cs tp3 (rl.unl.getD (f.i - rl.all.length) 0) (hokk.2.2 _ (getD_mem 0 hi3)) hfa (by omega) (by omega) (by omega) (by simp; omega) sp root _ ?_) ⟨rfl, rfl, rfl, ⟨rfl, rfl, rfl, rfl, rfl, rfl, rfl, rfl, rfl, rfl, rfl, trivial⟩⟩
        intro E' w' own' sv' cv' hsub hm hf
        have hm' : TMem w'.heap own' B n (tstep D n t) sv' cv' av ev := by
          rw [tstep, hcalls]
          simp only [if_pos hr, hrl, if_neg hi, if_pos hi2]
          exact hm
        exact hk _ _ _ _ _ _ _ hsub hm' (f3.trans hf)
      ·
        have hi2 : ¬ f.i < rl.all.length + rl.unl.length := by have := of_decide_eq_false hc122; omega
        refine W_seq (by kernel_rfl) ?_
        -- R20
        refine W_reg (l := [⟨some 94, Op.move (Operand.tmp 13), 70, none⟩, ⟨some 95, Op.move (Operand.tmp 13), 70, none⟩, ⟨some 96, Op.move (Operand.tmp 13), 70, none⟩, ⟨some 97, Op.nilCheck (Operand.tmp 96), 0, none⟩, ⟨some 98, Op.fieldAddr 68 (Operand.tmp 97) 1, 0, none⟩, ⟨some 99, Op.load 3 (Operand.tmp 98), 3, none⟩, ⟨some 100, Op.binOp BinOp.add 3 (Operand.tmp 99) (Operand.const (Value.int IntKind.i64 1)) 3, 3, none⟩, ⟨some 101, Op.nilCheck (Operand.tmp 94), 0, none⟩, ⟨some 102, Op.fieldAddr 68 (Operand.tmp 101) 1, 0, none⟩, ⟨none, Op.store 3 (Operand.tmp 102) (Operand.tmp 100), 0, none⟩, ⟨some 103, Op.nilCheck (Operand.tmp 95), 0, none⟩, ⟨some 104, Op.fieldAddr 68 (Operand.tmp 103) 2, 0, none⟩, ⟨none, Op.store 3 (Operand.tmp 104) (Operand.const (Value.int IntKind.i64 0)), 0, none⟩]) (by kernel_rfl) (by kernel_rfl) ?_
        refine TL_q rfl (QV_move rfl) ?_
        refine TL_q rfl (QV_move rfl) ?_
        refine TL_q rfl (QV_move rfl) ?_
        refine TL_q rfl (QV_nil rfl) ?_
        refine TL_q rfl (QV_field rfl fld68_1) ?_
        refine TL_q rfl (QV_load rfl one3 (tp3.c1)) ?_
        refine TL_q rfl (QV_add (r := ((f.r + 1 : Nat) : Int)) rfl rfl (by omega) (by omega) (by omega)) ?_
        refine TL_q rfl (QV_nil rfl) ?_
        refine TL_q rfl (QV_field rfl fld68_1) ?_
        refine TL_e (EV_store rfl rfl rfl sz3 tp3.blk (by have := tp3.lt; omega) fun w4 u4 => ?_)
        have tp4 := tp3.set1 u4
        have m4 := m3.retop hB tp3 u4 tp4
        refine TL_q rfl (QV_nil rfl) ?_
        refine TL_q rfl (QV_field rfl fld68_2) ?_
        refine TL_e (EV_store rfl rfl rfl sz3 tp4.blk tp4.lt fun w5 u5 => ?_)
        have tp5 := tp4.set2 (x := 0) u5
        have m5 : TMem w5.heap own B n { t with calls := ⟨f.a, f.r + 1, 0⟩ :: rest } sv _ av ev := m4.retop hB tp4 u5 tp5
        have hg := tp.own.2
        have fF := (f3.trans (u4.fr.mono (by omega))).trans (u5.fr.mono (Y := fun g => B.s ≤ g) (by omega))
        have eF : tstep D n t = { t with calls := ⟨f.a, f.r + 1, 0⟩ :: rest } := by
          rw [tstep, hcalls]
          simp only [if_pos hr, hrl, if_neg hi, if_neg hi2]
        have mF := m5
        rw [← eF] at mF
        refine TL_nil ?_
        refine W_exit 3 (by kernel_rfl) ?_
        exact hk _ _ _ _ _ _ _ ⟨rfl, rfl, rfl, rfl, rfl, rfl, rfl, rfl, rfl, rfl, rfl, trivial⟩ mF fF
  ·
    have hr : ¬ f.r < ((idxH D n D.length).getD f.a []).length := by have := of_decide_eq_false hc71; omega
    have hvC := m.vC
    rw [hcalls] at hvC
    refine W_skip (by kernel_rfl) ?_
    refine W_seq (by kernel_rfl) ?_
    -- R30
    refine W_reg (l := [⟨some 178, Op.load 66 (Operand.tmp 9), 66, none⟩, ⟨some 179, Op.load 66 (Operand.tmp 9), 66, none⟩, ⟨some 180, Op.call { callee := Callee.builtin Builtin.len, args := #[Operand.tmp 179], argTypes := #[66] }, 3, none⟩, ⟨some 181, Op.binOp BinOp.sub 3 (Operand.tmp 180) (Operand.const (Value.int IntKind.i64 1)) 3, 3, none⟩, ⟨some 182, Op.slice 66 (Operand.tmp 178) none (some (Operand.tmp 181)) none, 66, none⟩, ⟨none, Op.store 66 (Operand.tmp 9) (Operand.tmp 182), 0, none⟩]) (by kernel_rfl) (by kernel_rfl) ?_
    refine TL_q rfl (QV_load rfl one66 (m.cC)) ?_
    refine TL_q rfl (QV_load rfl one66 (m.cC)) ?_
    refine TL_q rfl (QV_len rfl el66) ?_
    refine TL_q rfl (QV_sub (r := ((rest.length : Nat) : Int)) rfl rfl (by omega) (by omega) (by omega)) ?_
    refine TL_q rfl (QV_sliceTo rfl rfl el66 sz68 (by have := tp.n1; omega)) ?_
    refine TL_e (EV_store rfl rfl rfl sz66 m.boxC (by simp) fun w1 u1 => ?_)
    have m1 : TMem w1.heap own B n { t with calls := rest } sv _ av ev := m.setC hB u1 (tp.popVec hvC)
    have f1 : Fr (fun g => B.s ≤ g) w w1 := u1.fr.mono (by omega)
    refine TL_nil ?_
    refine W_seq (by kernel_rfl) ?_
    refine W_seq (by kernel_rfl) ?_
    -- R31
    refine W_reg (l := [⟨some 183, Op.load 66 (Operand.tmp 9), 66, none⟩, ⟨some 184, Op.call { callee := Callee.builtin Builtin.len, args := #[Operand.tmp 183], argTypes := #[66] }, 3, none⟩, ⟨some 185, Op.binOp BinOp.gtr 3 (Operand.tmp 184) (Operand.const (Value.int IntKind.i64 0)) 3, 4, none⟩]) (by kernel_rfl) (by kernel_rfl) ?_
    refine TL_q rfl (QV_load rfl one66 (m1.cC)) ?_
    refine TL_q rfl (QV_len rfl el66) ?_
    refine TL_q rfl (QV_gtr rfl rfl) ?_
    refine TL_nil ?_
    refine W_cond (c := Operand.tmp 185) (by kernel_rfl) rfl (fun hc185 => ?_) (fun hc185 => ?_)
    ·
      have hpos : 0 < rest.length := by have := of_decide_eq_true hc185; omega
      cases rest with
      | nil => simp at hpos
      | cons c rest2 =>
      obtain ⟨g2, cap2, cs2, tp2⟩ := m1.top (f := c) (rest := rest2) rfl
      have hv2 := tp2.v
      simp only [List.length_cons, Value.slice.injEq, Option.some.injEq, Addr.mk.injEq] at hv2
      obtain ⟨⟨rfl, -⟩, -, rfl⟩ := hv2
      have hl2 : (c :: rest2).length = rest2.length + 1 := rfl
      have hca2 : c.a < n := safe.fa c (by rw [hcalls]; simp)
      refine W_seq (by kernel_rfl) ?_
      -- R32
      refine W_reg (l := [⟨some 186, Op.load 66 (Operand.tmp 9), 66, none⟩, ⟨some 187, Op.load 66 (Operand.tmp 9), 66, none⟩, ⟨some 188, Op.call { callee := Callee.builtin Builtin.len, args := #[Operand.tmp 187], argTypes := #[66] }, 3, none⟩, ⟨some 189, Op.binOp BinOp.sub 3 (Operand.tmp 188) (Operand.const (Value.int IntKind.i64 1)) 3, 3, none⟩, ⟨some 190, Op.indexAddr 66 (Operand.tmp 186) (Operand.tmp 189), 0, none⟩, ⟨some 191, Op.fieldAddr 68 (Operand.tmp 190) 0, 0, none⟩, ⟨some 192, Op.load 3 (Operand.tmp 191), 3, none⟩, ⟨some 17, Op.assign (Operand.tmp 192), 3, none⟩]) (by kernel_rfl) (by kernel_rfl) ?_
      refine TL_q rfl (QV_load rfl one66 (m1.cC)) ?_
      refine TL_q rfl (QV_load rfl one66 (m1.cC)) ?_
      refine TL_q rfl (QV_len rfl el66) ?_
      refine TL_q rfl (QV_sub (r := ((rest2.length : Nat) : Int)) rfl rfl (by omega) (by omega) (by omega)) ?_
      refine TL_q rfl (QV_idx3 rfl rfl el66 sz68 (by simp)) ?_
      refine TL_q rfl (QV_field0 rfl fld68_0) ?_
      refine TL_q rfl (QV_load rfl one3 (tp2.c0)) ?_
      refine TL_q rfl (QV_assign rfl) ?_
      refine TL_nil ?_
      -- R33
      refine W_regTail (l1 := [⟨some 193, Op.load 27 (Operand.tmp 6), 27, none⟩, ⟨some 194, Op.move (Operand.tmp 17), 3, none⟩, ⟨some 195, Op.load 27 (Operand.tmp 6), 27, none⟩, ⟨some 196, Op.move (Operand.tmp 17), 3, none⟩, ⟨some 197, Op.indexAddr 27 (Operand.tmp 195) (Operand.tmp 196), 0, none⟩, ⟨some 198, Op.load 3 (Operand.tmp 197), 3, none⟩, ⟨some 199, Op.load 27 (Operand.tmp 6), 27, none⟩, ⟨some 200, Op.move (Operand.tmp 14), 3, none⟩, ⟨some 201, Op.indexAddr 27 (Operand.tmp 199) (Operand.tmp 200), 0, none⟩, ⟨some 202, Op.load 3 (Operand.tmp 201), 3, none⟩, ⟨some 203, Op.call { callee := Callee.builtin Builtin.min, args := #[Operand.tmp 198, Operand.tmp 202], argTypes := #[3, 3] }, 3, none⟩, ⟨some 204, Op.indexAddr 27 (Operand.tmp 193) (Operand.tmp 194), 0, none⟩]) (l2 := [⟨none, Op.store 3 (Operand.tmp 204) (Operand.tmp 203), 0, none⟩]) mix (by kernel_rfl) (by kernel_rfl) (by kernel_rfl) ?_
      refine TS_q rfl (QV_load rfl one27 (m1.cL)) ?_
      refine TS_q rfl (QV_move rfl) ?_
      refine TS_q rfl (QV_load rfl one27 (m1.cL)) ?_
      refine TS_q rfl (QV_move rfl) ?_
      refine TS_q rfl (QV_idx1 rfl rfl el27 sz3 (hca2)) ?_
      refine TS_q rfl (QV_load rfl one3 (m1.gL hca2)) ?_
      refine TS_q rfl (QV_load rfl one27 (m1.cL)) ?_
      refine TS_q rfl (QV_move rfl) ?_
      refine TS_q rfl (QV_idx1 rfl rfl el27 sz3 (hfa)) ?_
      refine TS_q rfl (QV_load rfl one3 (m1.gL hfa)) ?_
      refine TS_q rfl (QV_min rfl rfl) ?_
      refine TS_q rfl (QV_idx1 rfl rfl el27 sz3 (hca2)) ?_
      refine TS_nil ?_
      refine TL_e (EV_store rfl rfl rfl sz3 m1.arrL (by rw [nats_len, m1.nL]; exact hca2) fun w2 u2 => ?_)
      rw [min_cast] at u2
      have m2 : TMem w2.heap own B n (t.up f.a (c :: rest2)) sv _ av ev := m1.setLow hB u2
      have i2 := hB.i2
      have f2 := f1.trans (u2.fr.mono (Y := fun g => B.s ≤ g) (by omega))
      refine TL_nil ?_
      refine W_seq (by kernel_rfl) ?_
      refine W_seq (by kernel_rfl) ?_
      -- R34
      refine W_regQ (l := [⟨some 205, Op.load 27 (Operand.tmp 6), 27, none⟩, ⟨some 206, Op.move (Operand.tmp 14), 3, none⟩, ⟨some 207, Op.indexAddr 27 (Operand.tmp 205) (Operand.tmp 206), 0, none⟩, ⟨some 208, Op.load 3 (Operand.tmp 207), 3, none⟩, ⟨some 209, Op.load 27 (Operand.tmp 5), 27, none⟩, ⟨some 210, Op.move (Operand.tmp 14), 3, none⟩, ⟨some 211, Op.indexAddr 27 (Operand.tmp 209) (Operand.tmp 210), 0, none⟩, ⟨some 212, Op.load 3 (Operand.tmp 211), 3, none⟩, ⟨some 213, Op.binOp BinOp.neq 3 (Operand.tmp 208) (Operand.tmp 212) 3, 4, none⟩]) mix (by kernel_rfl) (by kernel_rfl) (by kernel_rfl) ?_
      refine TQ_q rfl (QV_load rfl one27 (m2.cL)) ?_
      refine TQ_q rfl (QV_move rfl) ?_
      refine TQ_q rfl (QV_idx1 rfl rfl el27 sz3 (hfa)) ?_
      refine TQ_q rfl (QV_load rfl one3 (m2.gL hfa)) ?_
      refine TQ_q rfl (QV_load rfl one27 (m2.cI)) ?_
      refine TQ_q rfl (QV_move rfl) ?_
      refine TQ_q rfl (QV_idx1 rfl rfl el27 sz3 (hfa)) ?_
      refine TQ_q rfl (QV_load rfl one3 (m2.gI hfa)) ?_
      refine TQ_q rfl (QV_neq rfl rfl) ?_
      refine TQ_nil ?_
      refine W_cond (c := Operand.tmp 213) (by kernel_rfl) rfl (fun hc213 => ?_) (fun hc213 => ?_)
      ·
        have hlow := of_decide_eq_true hc213
        have fF := f2
        have eF : tstep D n t = t.up f.a (c :: rest2) := by
          rw [tstep, hcalls]
          simp only [if_neg hr]
          rw [TJ.close, if_pos (by omega)]
        have mF := m2
        rw [← eF] at mF
        refine W_exit 3 (by kernel_rfl) ?_
        exact hk _ _ _ _ _ _ _ ⟨rfl, rfl, rfl, rfl, rfl, rfl, rfl, rfl, rfl, rfl, rfl, trivial⟩ mF fF
      ·
        have hlow := of_decide_eq_false hc213
        have hstk : (t.up f.a (c :: rest2)).stack = t.stack := rfl
        have hatm : (t.up f.a (c :: rest2)).atoms = t.atoms := rfl
        have hend : (t.up f.a (c :: rest2)).ends = t.ends := rfl
        refine W_skip (by kernel_rfl) ?_
        refine W_seq (by kernel_rfl) ?_
        refine T.env (popLoop _ own B hB n hn _ sv _ av ev m2 f.a (safe.fs f (by rw [hcalls]; simp)) safe.st safe.ns sp root _ ?_) ⟨rfl, ⟨rfl, rfl, rfl, rfl, rfl, rfl, rfl, rfl, rfl, rfl, rfl, trivial⟩⟩
        intro E5 w5 own5 sv5 av5 hsub5 m5 f5
        refine T.env (E' := (14, .int .i64 (f.a : Int)) :: tenv sp n B av5 ev root) ?_ hsub5
        -- R40
        obtain ⟨t5, ht5⟩ : ∃ x, popTo f.a (t.up f.a (c :: rest2)).stack (t.up f.a (c :: rest2)) = x := ⟨_, rfl⟩
        have hsame := popTo_same f.a (t.up f.a (c :: rest2)).stack (t.up f.a (c :: rest2))
        rw [ht5] at m5 hsame
        obtain ⟨av0, avc, hav, havc⟩ := m5.vA.row.form
        subst hav
        refine W_reg (l := [⟨some 235, Op.move (Operand.tmp 3), 27, none⟩, ⟨some 236, Op.move (Operand.tmp 2), 27, none⟩, ⟨some 237, Op.call { callee := Callee.builtin Builtin.len, args := #[Operand.tmp 236], argTypes := #[27] }, 3, none⟩, ⟨some 238, Op.buildSlice 27 1 #[(0, Operand.tmp 237)], 27, none⟩, ⟨some 239, Op.call { callee := Callee.builtin Builtin.append, args := #[Operand.tmp 235, Operand.tmp 238], argTypes := #[27, 27] }, 27, none⟩, ⟨some 3, Op.assign (Operand.tmp 239), 27, none⟩]) (by kernel_rfl) (by kernel_rfl) ?_
        refine TL_q rfl (QV_move rfl) ?_
        refine TL_q rfl (QV_move rfl) ?_
        refine TL_q rfl (QV_len rfl el27) ?_
        refine TL_e (EV_lit1 rfl rfl rfl el27 in3 rfl fun w6 h6 => ?_)
        refine TL_e (EV_append rfl rfl rfl el27 in3 rfl (by decide) (m5.vE.row.fr h6.fr (fun _ _ h => h)) rfl (news1 h6.blk) (one1 rfl) (by have := safe.ne; rw [hsame.1]; show (t.ends.length + 1) * 8 ≤ _; omega) (by have := safe.ne; rw [hsame.1]; show t.ends.length + 1 ≤ _; omega) fun v' w7 hrow h67 hat => ?_)
        refine TL_q rfl (QV_assign rfl) ?_
        have m7 := m5.pushE hB h6 hrow h67 hat
        have z6 := h6.size
        have l5 := m5.lt
        have fF := ((f2.trans f5).trans (h6.fr.mono (fun _ _ h => h.elim))).trans (h67.mono (Y := fun g => B.s ≤ g) (fun k _ e => by have := (m5.vE.own _ e).2; omega))
        have eF : tstep D n t = { t5 with ends := t5.ends ++ [t5.atoms.length] } := by
          rw [tstep, hcalls]
          simp only [if_neg hr]
          rw [TJ.close, if_neg (by omega), ht5, hsame.1]
        have mF := m7
        rw [← eF] at mF
        refine TL_nil ?_
        exact hk _ _ _ _ _ _ _ ⟨rfl, rfl, rfl, rfl, rfl, rfl, rfl, rfl, rfl, rfl, rfl, trivial⟩ mF fF
    ·
      have hpos : rest = [] := by have := of_decide_eq_false hc185; cases rest with | nil => rfl | cons c r => simp at this
      subst hpos
      have m2 : TMem w1.heap own B n (t.up f.a []) sv _ av ev := m1
      have f2 := f1
      refine W_skip (by kernel_rfl) ?_
      refine W_seq (by kernel_rfl) ?_
      refine W_seq (by kernel_rfl) ?_
      -- R34
      refine W_regQ (l := [⟨some 205, Op.load 27 (Operand.tmp 6), 27, none⟩, ⟨some 206, Op.move (Operand.tmp 14), 3, none⟩, ⟨some 207, Op.indexAddr 27 (Operand.tmp 205) (Operand.tmp 206), 0, none⟩, ⟨some 208, Op.load 3 (Operand.tmp 207), 3, none⟩, ⟨some 209, Op.load 27 (Operand.tmp 5), 27, none⟩, ⟨some 210, Op.move (Operand.tmp 14), 3, none⟩, ⟨some 211, Op.indexAddr 27 (Operand.tmp 209) (Operand.tmp 210), 0, none⟩, ⟨some 212, Op.load 3 (Operand.tmp 211), 3, none⟩, ⟨some 213, Op.binOp BinOp.neq 3 (Operand.tmp 208) (Operand.tmp 212) 3, 4, none⟩]) mix (by kernel_rfl) (by kernel_rfl) (by kernel_rfl) ?_
      refine TQ_q rfl (QV_load rfl one27 (m2.cL)) ?_
      refine TQ_q rfl (QV_move rfl) ?_
      refine TQ_q rfl (QV_idx1 rfl rfl el27 sz3 (hfa)) ?_
      refine TQ_q rfl (QV_load rfl one3 (m2.gL hfa)) ?_
      refine TQ_q rfl (QV_load rfl one27 (m2.cI)) ?_
      refine TQ_q rfl (QV_move rfl) ?_
      refine TQ_q rfl (QV_idx1 rfl rfl el27 sz3 (hfa)) ?_
      refine TQ_q rfl (QV_load rfl one3 (m2.gI hfa)) ?_
      refine TQ_q rfl (QV_neq rfl rfl) ?_
      refine TQ_nil ?_
      refine W_cond (c := Operand.tmp 213) (by kernel_rfl) rfl (fun hc213 => ?_) (fun hc213 => ?_)
      ·
        have hlow := of_decide_eq_true hc213
        have fF := f2
        have eF : tstep D n t = t.up f.a [] := by
          rw [tstep, hcalls]
          simp only [if_neg hr]
          rw [TJ.close, if_pos (by omega)]
        have mF := m2
        rw [← eF] at mF
        refine W_exit 3 (by kernel_rfl) ?_
        exact hk _ _ _ _ _ _ _ ⟨rfl, rfl, rfl, rfl, rfl, rfl, rfl, rfl, rfl, rfl, rfl, trivial⟩ mF fF
      ·
        have hlow := of_decide_eq_false hc213
        have hstk : (t.up f.a []).stack = t.stack := rfl
        have hatm : (t.up f.a []).atoms = t.atoms := rfl
        have hend : (t.up f.a []).ends = t.ends := rfl
        refine W_skip (by kernel_rfl) ?_
        refine W_seq (by kernel_rfl) ?_
        refine T.env (popLoop _ own B hB n hn _ sv _ av ev m2 f.a (safe.fs f (by rw [hcalls]; simp)) safe.st safe.ns sp root _ ?_) ⟨rfl, ⟨rfl, rfl, rfl, rfl, rfl, rfl, rfl, rfl, rfl, rfl, rfl, trivial⟩⟩
        intro E5 w5 own5 sv5 av5 hsub5 m5 f5
        refine T.env (E' := (14, .int .i64 (f.a : Int)) :: tenv sp n B av5 ev root) ?_ hsub5
        -- R40
        obtain ⟨t5, ht5⟩ : ∃ x, popTo f.a (t.up f.a []).stack (t.up f.a []) = x := ⟨_, rfl⟩
        have hsame := popTo_same f.a (t.up f.a []).stack (t.up f.a [])
        rw [ht5] at m5 hsame
        obtain ⟨av0, avc, hav, havc⟩ := m5.vA.row.form
        subst hav
        refine W_reg (l := [⟨some 235, Op.move (Operand.tmp 3), 27, none⟩, ⟨some 236, Op.move (Operand.tmp 2), 27, none⟩, ⟨some 237, Op.call { callee := Callee.builtin Builtin.len, args := #[Operand.tmp 236], argTypes := #[27] }, 3, none⟩, ⟨some 238, Op.buildSlice 27 1 #[(0, Operand.tmp 237)], 27, none⟩, ⟨some 239, Op.call { callee := Callee.builtin Builtin.append, args := #[Operand.tmp 235, Operand.tmp 238], argTypes := #[27, 27] }, 27, none⟩, ⟨some 3, Op.assign (Operand.tmp 239), 27, none⟩]) (by kernel_rfl) (by kernel_rfl) ?_
        refine TL_q rfl (QV_move rfl) ?_
        refine TL_q rfl (QV_move rfl) ?_
        refine TL_q rfl (QV_len rfl el27) ?_
        refine TL_e (EV_lit1 rfl rfl rfl el27 in3 rfl fun w6 h6 => ?_)
        refine TL_e (EV_append rfl rfl rfl el27 in3 rfl (by decide) (m5.vE.row.fr h6.fr (fun _ _ h => h)) rfl (news1 h6.blk) (one1 rfl) (by have := safe.ne; rw [hsame.1]; show (t.ends.length + 1) * 8 ≤ _; omega) (by have := safe.ne; rw [hsame.1]; show t.ends.length + 1 ≤ _; omega) fun v' w7 hrow h67 hat => ?_)
        refine TL_q rfl (QV_assign rfl) ?_
        have m7 := m5.pushE hB h6 hrow h67 hat
        have z6 := h6.size
        have l5 := m5.lt
        have fF := ((f2.trans f5).trans (h6.fr.mono (fun _ _ h => h.elim))).trans (h67.mono (Y := fun g => B.s ≤ g) (fun k _ e => by have := (m5.vE.own _ e).2; omega))
        have eF : tstep D n t = { t5 with ends := t5.ends ++ [t5.atoms.length] } := by
          rw [tstep, hcalls]
          simp only [if_neg hr]
          rw [TJ.close, if_neg (by omega), ht5, hsame.1]
        have mF := m7
        rw [← eF] at mF
        refine TL_nil ?_
        exact hk _ _ _ _ _ _ _ ⟨rfl, rfl, rfl, rfl, rfl, rfl, rfl, rfl, rfl, rfl, rfl, trivial⟩ mF fF

end Go.Proofs.Qxb6600121a
