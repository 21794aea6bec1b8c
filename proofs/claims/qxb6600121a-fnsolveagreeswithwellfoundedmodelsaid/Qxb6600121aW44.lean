/-
   Walks written by program (wip/gen).
-/
import Derived.Test.Qxb6600121aW45
import Derived.Test.Qxb6600121aW21
namespace Go.Proofs.Qxb6600121a
open Go Go.Proofs
set_option linter.unusedVariables false
set_option linter.unusedSimpArgs false

structure FS where
  S : SS
  lv : Value
  qv : Value
/-- How many are undecided. -/
def und : List Int → Nat
  | [] => 0
  | v :: vs => (if v = 1 then 1 else 0) + und vs
theorem und_set (vs : List Int) (a : Nat) (t : Int) (ht : t ≠ 1) (h : vs.getD a 0 = 1) : und (vs.set a t) + 1 = und vs := by
  induction vs generalizing a with
  | nil => simp at h
  | cons v vs ih =>
    cases a with
    | zero =>
      have h : v = 1 := h
      subst h
      rw [List.set_cons_zero, und, und, if_neg ht, if_pos rfl]
      omega
    | succ a =>
      rw [List.set_cons_succ, und, und]
      have := ih a (by simpa using h)
      omega
def muq (S : SS) : Nat := und S.val + S.queue.length
theorem muq_decide (S : SS) (a : Nat) (t : Int) (ht : t ≠ 1) : muq (decideF S a t) = muq S := by
  unfold decideF
  split
  · rename_i h
    have := und_set S.val a t ht h
    unfold muq
    simp only [List.length_append, List.length_singleton]
    omega
  · rfl
theorem muq_lose (S : SS) (h r : Nat) : muq (loseIf S h r) = muq S := by unfold loseIf; split <;> rfl
theorem muq_meet (D : List Rl) (part : Nat) (S : SS) (r : Nat) (m : Bool) : muq (meetF D part S r m) = muq S := by
  unfold meetF
  split
  · rfl
  · split
    · unfold refIf
      split
      · rw [muq_decide _ _ _ (by decide)]
        exact muq_lose (closeF S r) _ r
      · exact muq_lose (closeF S r) _ r
    · unfold prvIf
      split
      · rw [muq_decide _ _ _ (by decide)]; rfl
      · rfl
theorem eq_snoc {l : List Nat} (h : 0 < l.length) : ∃ q a, l = q ++ [a] := by
  rcases List.eq_nil_or_concat l with h1 | ⟨q, a, h1⟩
  · rw [h1] at h; cases h
  · exact ⟨q, a, by rw [h1]; simp⟩
theorem drop_getD {α : Type} (l : List α) (i : Nat) (d : α) (h : i < l.length) : l.drop i = l.getD i d :: l.drop (i + 1) := by
  rw [List.drop_eq_getElem_cons h]
  simp [h]
theorem Row.last {h : Array Obj} {x c : Nat} {a : Option Addr} {q : List Nat} (hr : Row h 3 1 (.slice a (q.length + 1) c) (q.length + 1) (nats (q ++ [x]))) :
    ∃ g, a = some ⟨g, 0, none⟩ ∧ q.length + 1 ≤ c ∧ cel h g q.length = some (.int .i64 (x : Int)) := by
  have e : nats (q ++ [x]) = nats (x :: q.reverse).reverse := by simp
  rw [e] at hr
  have := Row.top2 (h := h) (x := x) (c := c) (a := a) (st := q.reverse) (by simpa using hr)
  simpa using this
theorem Row.popL {h : Array Obj} {x c : Nat} {a : Option Addr} {q : List Nat} (hr : Row h 3 1 (.slice a (q.length + 1) c) (q.length + 1) (nats (q ++ [x]))) : Row h 3 1 (.slice a q.length c) q.length (nats q) := by
  have e : nats (q ++ [x]) = nats (x :: q.reverse).reverse := by simp
  rw [e] at hr
  have := Row.popN (h := h) (x := x) (c := c) (a := a) (st := q.reverse) (by simpa using hr)
  simpa using this
theorem notFX {L : Lay} {Prot : Nat → Prop} {b : Nat} (h : b ≤ L.s) : ¬ FX L Prot b := fun h2 => by have := h2.1; omega
def Bnd (n : Nat) (D : List Rl) (S : SS) : Prop := S.queue.length ≤ 1000000000000 ∧ S.lost.length ≤ 1000000000000 ∧ (∀ r, r < D.length → -1000000000000 ≤ S.wait.getD r 0 ∧ S.wait.getD r 0 ≤ 1000000000000) ∧ ∀ a, a < n → -1000000000000 ≤ S.opn.getD a 0 ∧ S.opn.getD a 0 ≤ 1000000000000
def evts (D : List Rl) (n : Nat) (S : SS) (a : Nat) : List (Nat × Bool) := ((idxU D n D.length).getD a []).map (fun r => (r, decide (S.val.getD a 0 = 2))) ++ ((idxE D n D.length).getD a []).map (fun r => (r, !decide (S.val.getD a 0 = 2)))
set_option maxRecDepth 10000 in
set_option maxHeartbeats 1000000 in
theorem followSolve (w : World) (L : Lay) (n : Nat) (D : List Rl) (S : SS) (Prot : Nat → Prop) (lv qv : Value) (h : SMF w w L n D S Prot lv qv) (hok : Okay n D) (hl : D.length + tot (D.map Rl.rd) ≤ 1048576) (part : Nat) (PE : SS → List (Nat × Bool) → Prop)
    (hbnd : ∀ S evs, PE S evs → Bnd n D S) (hpop : ∀ S a q, PE S [] → S.queue = q ++ [a] → a < n ∧ PE { S with queue := q } (evts D n S a)) (hmeet : ∀ S r m evs, PE S ((r, m) :: evs) → PE (meetF D part S r m) evs) (h0 : PE S []) :
    CallsS Try.prog 44 #[.pointer (some ⟨L.s + 9, 0, none⟩), .int .i64 (part : Int)] w (fun r' w' => r' = .tuple #[] ∧ ∃ S' lv' qv', PE S' [] ∧ S'.queue = [] ∧ SMF w w' L n D S' Prot lv' qv') := by
  obtain ⟨tb, htbv, htbB, htab⟩ := h.m.c.stat.us
  obtain ⟨te, hteE, hteB, htabE⟩ := h.m.c.stat.ex
  refine W_fun [] Try.func44 rfl Try.ntmps44 Try.results44 (Nat.le_of_ble_eq_true rfl) ?_
  refine W_block 0 (by kernel_rfl) ?_
  refine W_loop (ι := FS) (fun i w1 => PE i.S [] ∧ SMF w w1 L n D i.S Prot i.lv i.qv) (fun i => [(0, .pointer (some ⟨L.s + 9, 0, none⟩)), (1, .int .i64 (part : Int))]) (fun i => muq i.S) ⟨S, lv, qv⟩ (by kernel_rfl) ?_ ?_ ?_
  · exact ⟨h0, h⟩
  · exact ⟨rfl, rfl, trivial⟩
  rintro ⟨S1, lv1, qv1⟩ w1 ⟨hpe, h1⟩
  dsimp only at hpe h1 ⊢
  obtain ⟨sa, sc, rfl, hsc⟩ := h1.m.rq.form
  have hbq := (hbnd S1 [] hpe).1
  refine W_seq (by kernel_rfl) ?_
  refine W_seq (by kernel_rfl) ?_
  -- R0
  refine W_reg (l := [⟨some 10, Op.move (Operand.tmp 0), 25, none⟩, ⟨some 11, Op.nilCheck (Operand.tmp 10), 0, none⟩, ⟨some 12, Op.fieldAddr 61 (Operand.tmp 11) 13, 0, none⟩, ⟨some 13, Op.load 27 (Operand.tmp 12), 27, none⟩, ⟨some 14, Op.call { callee := Callee.builtin Builtin.len, args := #[Operand.tmp 13], argTypes := #[27] }, 3, none⟩, ⟨some 15, Op.binOp BinOp.gtr 3 (Operand.tmp 14) (Operand.const (Value.int IntKind.i64 0)) 3, 4, none⟩]) (by kernel_rfl) (by kernel_rfl) ?_
  refine TL_q rfl (QV_move rfl) ?_
  refine TL_q rfl (QV_nil rfl) ?_
  refine TL_q rfl (QV_field rfl fld61_13) ?_
  refine TL_q rfl (QV_load rfl one27 (h1.m.c.c13)) ?_
  refine TL_q rfl (QV_len rfl el27) ?_
  refine TL_q rfl (QV_gtr rfl rfl) ?_
  refine TL_nil ?_
  refine W_cond (c := Operand.tmp 15) (by kernel_rfl) rfl (fun hc15 => ?_) (fun hc15 => ?_)
  ·
    have hpos : 0 < S1.queue.length := by have := of_decide_eq_true hc15; omega
    obtain ⟨q, a, hqa⟩ := eq_snoc hpos
    obtain ⟨ha, hpe1⟩ := hpop S1 a q hpe hqa
    have hrow1 := h1.m.rq
    have hql : S1.queue.length = q.length + 1 := by rw [hqa]; simp
    rw [hql, hqa] at hrow1
    obtain ⟨sg, rfl, hsc2, htop⟩ := hrow1.last
    have ec13 := h1.m.c.c13
    rw [hql] at ec13
    refine W_skip (by kernel_rfl) ?_
    refine W_block 1 (by kernel_rfl) ?_
    refine W_seq (by kernel_rfl) ?_
    -- R1
    refine W_regQ (l := [⟨some 16, Op.move (Operand.tmp 0), 25, none⟩, ⟨some 17, Op.nilCheck (Operand.tmp 16), 0, none⟩, ⟨some 18, Op.fieldAddr 61 (Operand.tmp 17) 13, 0, none⟩, ⟨some 19, Op.load 27 (Operand.tmp 18), 27, none⟩, ⟨some 20, Op.move (Operand.tmp 0), 25, none⟩, ⟨some 21, Op.nilCheck (Operand.tmp 20), 0, none⟩, ⟨some 22, Op.fieldAddr 61 (Operand.tmp 21) 13, 0, none⟩, ⟨some 23, Op.load 27 (Operand.tmp 22), 27, none⟩, ⟨some 24, Op.call { callee := Callee.builtin Builtin.len, args := #[Operand.tmp 23], argTypes := #[27] }, 3, none⟩, ⟨some 25, Op.binOp BinOp.sub 3 (Operand.tmp 24) (Operand.const (Value.int IntKind.i64 1)) 3, 3, none⟩, ⟨some 26, Op.indexAddr 27 (Operand.tmp 19) (Operand.tmp 25), 0, none⟩, ⟨some 27, Op.load 3 (Operand.tmp 26), 3, none⟩, ⟨some 4, Op.assign (Operand.tmp 27), 3, none⟩]) mix (by kernel_rfl) (by kernel_rfl) (by kernel_rfl) ?_
    refine TQ_q rfl (QV_move rfl) ?_
    refine TQ_q rfl (QV_nil rfl) ?_
    refine TQ_q rfl (QV_field rfl fld61_13) ?_
    refine TQ_q rfl (QV_load rfl one27 (ec13)) ?_
    refine TQ_q rfl (QV_move rfl) ?_
    refine TQ_q rfl (QV_nil rfl) ?_
    refine TQ_q rfl (QV_field rfl fld61_13) ?_
    refine TQ_q rfl (QV_load rfl one27 (ec13)) ?_
    refine TQ_q rfl (QV_len rfl el27) ?_
    refine TQ_q rfl (QV_sub (r := ((q.length : Nat) : Int)) rfl rfl (by omega) (by omega) (by omega)) ?_
    refine TQ_q rfl (QV_idx1 rfl rfl el27 sz3 (by omega)) ?_
    refine TQ_q rfl (QV_load rfl one3 (htop)) ?_
    refine TQ_q rfl (QV_assign rfl) ?_
    refine TQ_nil ?_
    refine W_seq (by kernel_rfl) ?_
    -- R2
    refine W_regTail (l1 := [⟨some 28, Op.move (Operand.tmp 0), 25, none⟩, ⟨some 29, Op.move (Operand.tmp 0), 25, none⟩, ⟨some 30, Op.nilCheck (Operand.tmp 29), 0, none⟩, ⟨some 31, Op.fieldAddr 61 (Operand.tmp 30) 13, 0, none⟩, ⟨some 32, Op.load 27 (Operand.tmp 31), 27, none⟩, ⟨some 33, Op.move (Operand.tmp 0), 25, none⟩, ⟨some 34, Op.nilCheck (Operand.tmp 33), 0, none⟩, ⟨some 35, Op.fieldAddr 61 (Operand.tmp 34) 13, 0, none⟩, ⟨some 36, Op.load 27 (Operand.tmp 35), 27, none⟩, ⟨some 37, Op.call { callee := Callee.builtin Builtin.len, args := #[Operand.tmp 36], argTypes := #[27] }, 3, none⟩, ⟨some 38, Op.binOp BinOp.sub 3 (Operand.tmp 37) (Operand.const (Value.int IntKind.i64 1)) 3, 3, none⟩, ⟨some 39, Op.slice 27 (Operand.tmp 32) none (some (Operand.tmp 38)) none, 27, none⟩, ⟨some 40, Op.nilCheck (Operand.tmp 28), 0, none⟩, ⟨some 41, Op.fieldAddr 61 (Operand.tmp 40) 13, 0, none⟩]) (l2 := [⟨none, Op.store 27 (Operand.tmp 41) (Operand.tmp 39), 0, none⟩]) mix (by kernel_rfl) (by kernel_rfl) (by kernel_rfl) ?_
    refine TS_q rfl (QV_move rfl) ?_
    refine TS_q rfl (QV_move rfl) ?_
    refine TS_q rfl (QV_nil rfl) ?_
    refine TS_q rfl (QV_field rfl fld61_13) ?_
    refine TS_q rfl (QV_load rfl one27 (ec13)) ?_
    refine TS_q rfl (QV_move rfl) ?_
    refine TS_q rfl (QV_nil rfl) ?_
    refine TS_q rfl (QV_field rfl fld61_13) ?_
    refine TS_q rfl (QV_load rfl one27 (ec13)) ?_
    refine TS_q rfl (QV_len rfl el27) ?_
    refine TS_q rfl (QV_sub (r := ((q.length : Nat) : Int)) rfl rfl (by omega) (by omega) (by omega)) ?_
    refine TS_q rfl (QV_sliceTo rfl rfl el27 sz3 (by omega)) ?_
    refine TS_q rfl (QV_nil rfl) ?_
    refine TS_q rfl (QV_field rfl fld61_13) ?_
    refine TS_nil ?_
    refine TL_e (EV_store rfl rfl rfl sz27 h1.m.c.sol (by simp [solCells]) fun w2 u2 => ?_)
    have h2 := h1.setQueue (Fr.refl (fun _ => False) w1) (fun _ h => h.elim) hrow1.popL (.inl rfl) u2
    have hm2 : muq { S1 with queue := q } + 1 = muq S1 := by unfold muq; rw [hql]; rfl
    refine TL_nil ?_
    refine W_seq (by kernel_rfl) ?_
    -- R3
    refine W_reg (l := [⟨some 42, Op.move (Operand.tmp 0), 25, none⟩, ⟨some 43, Op.nilCheck (Operand.tmp 42), 0, none⟩, ⟨some 44, Op.fieldAddr 61 (Operand.tmp 43) 4, 0, none⟩, ⟨some 45, Op.load 47 (Operand.tmp 44), 47, none⟩, ⟨some 46, Op.move (Operand.tmp 4), 3, none⟩, ⟨some 47, Op.indexAddr 47 (Operand.tmp 45) (Operand.tmp 46), 0, none⟩, ⟨some 48, Op.load 45 (Operand.tmp 47), 45, none⟩, ⟨some 49, Op.binOp BinOp.eql 45 (Operand.tmp 48) (Operand.const (Value.int IntKind.i8 2)) 45, 4, none⟩, ⟨some 5, Op.assign (Operand.tmp 49), 4, none⟩]) (by kernel_rfl) (by kernel_rfl) ?_
    refine TL_q rfl (QV_move rfl) ?_
    refine TL_q rfl (QV_nil rfl) ?_
    refine TL_q rfl (QV_field rfl fld61_4) ?_
    refine TL_q rfl (QV_load rfl one47 (h2.m.c.c4)) ?_
    refine TL_q rfl (QV_move rfl) ?_
    refine TL_q rfl (QV_idx1 rfl rfl el47 sz45 (ha)) ?_
    refine TL_q rfl (QV_load rfl one45 (h2.m.c.bval.c8 (by rw [h2.m.c.nval]; exact ha))) ?_
    refine TL_q rfl (QV_eql rfl rfl) ?_
    refine TL_q rfl (QV_assign rfl) ?_
    refine TL_nil ?_
    refine W_seq (by kernel_rfl) ?_
    refine W_seq (by kernel_rfl) ?_
    -- R4
    obtain ⟨va, hva, hints⟩ := htab a ha
    obtain ⟨qa, qc, rfl, hqc, hrow⟩ := hints.nat
    have hsh := idxU_short D n D.length (Nat.le_refl _) a
    rw [show (D.map Rl.rd).take D.length = D.map Rl.rd by rw [List.take_of_length_le (by simp)]] at hsh
    have ec2 := h2.m.c.c2
    rw [htbv] at ec2
    refine W_reg (l := [⟨some 50, Op.move (Operand.tmp 0), 25, none⟩, ⟨some 51, Op.nilCheck (Operand.tmp 50), 0, none⟩, ⟨some 52, Op.fieldAddr 61 (Operand.tmp 51) 2, 0, none⟩, ⟨some 53, Op.load 34 (Operand.tmp 52), 34, none⟩, ⟨some 54, Op.move (Operand.tmp 4), 3, none⟩, ⟨some 55, Op.indexAddr 34 (Operand.tmp 53) (Operand.tmp 54), 0, none⟩, ⟨some 56, Op.load 27 (Operand.tmp 55), 27, none⟩, ⟨some 57, Op.call { callee := Callee.builtin Builtin.len, args := #[Operand.tmp 56], argTypes := #[27] }, 3, none⟩, ⟨some 58, Op.move (Operand.const (Value.int IntKind.i64 0)), 3, none⟩]) (by kernel_rfl) (by kernel_rfl) ?_
    refine TL_q rfl (QV_move rfl) ?_
    refine TL_q rfl (QV_nil rfl) ?_
    refine TL_q rfl (QV_field rfl fld61_2) ?_
    refine TL_q rfl (QV_load rfl one34 (ec2)) ?_
    refine TL_q rfl (QV_move rfl) ?_
    refine TL_q rfl (QV_idx1 rfl rfl el34 sz27 (ha)) ?_
    refine TL_q rfl (QV_load rfl one27 (cel_fr hva h2.f (notFX (by omega)))) ?_
    refine TL_q rfl (QV_len rfl el27) ?_
    refine TL_q rfl (QV_move rfl) ?_
    refine TL_nil ?_
    refine W_block 2 (by kernel_rfl) ?_
    refine W_loop (ι := Nat × FS) (fun i w3 => i.1 ≤ ((idxU D n D.length).getD a []).length ∧ SMF w w3 L n D i.2.S Prot i.2.lv i.2.qv ∧ muq i.2.S + 1 = muq S1 ∧ PE i.2.S ((((idxU D n D.length).getD a []).drop i.1).map (fun r => (r, decide (S1.val.getD a 0 = 2))) ++ ((idxE D n D.length).getD a []).map (fun r => (r, !decide (S1.val.getD a 0 = 2))))) (fun i => [(0, .pointer (some ⟨L.s + 9, 0, none⟩)), (1, .int .i64 (part : Int)), (4, .int .i64 (a : Int)), (5, .bool (decide (S1.val.getD a 0 = 2))), (56, .slice qa ((idxU D n D.length).getD a []).length qc), (57, .int .i64 (((idxU D n D.length).getD a []).length : Nat)), (58, .int .i64 (i.1 : Int))]) (fun i => ((idxU D n D.length).getD a []).length - i.1) (0, ⟨{ S1 with queue := q }, lv1, .slice (some ⟨sg, 0, none⟩) q.length sc⟩) (by kernel_rfl) ?_ ?_ ?_
    · exact ⟨Nat.zero_le _, h2, hm2, hpe1⟩
    · exact ⟨rfl, rfl, rfl, rfl, rfl, rfl, rfl, trivial⟩
    rintro ⟨i, S3, lv3, qv3⟩ w3 ⟨hi, h3, hm3, hpe3⟩
    dsimp only at hi h3 hm3 hpe3 ⊢
    refine W_seq (by kernel_rfl) ?_
    -- R5
    refine W_reg (l := [⟨some 59, Op.binOp BinOp.lss 3 (Operand.tmp 58) (Operand.tmp 57) 3, 0, none⟩]) (by kernel_rfl) (by kernel_rfl) ?_
    refine TL_q rfl (QV_lss rfl rfl) ?_
    refine TL_nil ?_
    refine W_seq (by kernel_rfl) ?_
    refine W_cond (c := Operand.tmp 59) (by kernel_rfl) rfl (fun hc59 => ?_) (fun hc59 => ?_)
    ·
      have hlt : i < ((idxU D n D.length).getD a []).length := by have := of_decide_eq_true hc59; omega
      obtain ⟨b1, o1, rfl, hb1, hc1⟩ := hrow (by omega)
      obtain ⟨hrl, hrm⟩ := (mem_idxU D n D.length (Nat.le_refl _) hok a _).1 (getD_mem 0 hlt)
      rw [drop_getD _ i 0 hlt, List.map_cons, List.cons_append] at hpe3
      have hb3 := hbnd _ _ hpe3
      have hpe4 := hmeet _ _ _ _ hpe3
      refine W_skip (by kernel_rfl) ?_
      refine W_seq (by kernel_rfl) ?_
      refine W_block 3 (by kernel_rfl) ?_
      refine W_seq (by kernel_rfl) ?_
      -- R6
      refine W_reg (l := [⟨some 60, Op.indexAddr 27 (Operand.tmp 56) (Operand.tmp 58), 0, none⟩, ⟨some 61, Op.load 3 (Operand.tmp 60), 3, none⟩, ⟨some 7, Op.assign (Operand.tmp 61), 3, none⟩]) (by kernel_rfl) (by kernel_rfl) ?_
      refine TL_q rfl (QV_idxO rfl rfl el27 sz3 (hlt)) ?_
      refine TL_q rfl (QV_load rfl one3 (cel_fr (hc1 i hlt) h3.f (notFX (by omega)))) ?_
      refine TL_q rfl (QV_assign rfl) ?_
      refine TL_nil ?_
      -- R7
      refine W_reg (l := [⟨some 62, Op.move (Operand.tmp 0), 25, none⟩, ⟨some 63, Op.move (Operand.tmp 7), 3, none⟩, ⟨some 64, Op.move (Operand.tmp 1), 3, none⟩, ⟨some 65, Op.move (Operand.tmp 5), 4, none⟩, ⟨some 66, Op.call { callee := Callee.value (Operand.func 45), args := #[Operand.tmp 62, Operand.tmp 63, Operand.tmp 64, Operand.tmp 65], argTypes := #[25, 3, 3, 4] }, 0, none⟩]) (by kernel_rfl) (by kernel_rfl) ?_
      refine TL_q rfl (QV_move rfl) ?_
      refine TL_q rfl (QV_move rfl) ?_
      refine TL_q rfl (QV_move rfl) ?_
      refine TL_q rfl (QV_move rfl) ?_
      refine TL_e (EV_callD rfl rfl rfl call45 (meetWalk w3 L n D S3 Prot lv3 qv3 h3.self hok _ part hrl _ hb3.1 hb3.2.1 (hb3.2.2.1 _ hrl) (hb3.2.2.2 _ ((hok _ (getD_mem rl0 hrl)).1))) fun r4 w4 hr4 => ?_)
      obtain ⟨rfl, lv4, qv4, h4⟩ := hr4
      have hm4 := muq_meet D part S3 (((idxU D n D.length).getD a []).getD i 0) (decide (S1.val.getD a 0 = 2))
      refine TL_nil ?_
      -- R8
      refine W_reg (l := [⟨some 67, Op.binOp BinOp.add 3 (Operand.tmp 58) (Operand.const (Value.int IntKind.i64 1)) 3, 3, none⟩, ⟨some 58, Op.move (Operand.tmp 67), 3, none⟩]) (by kernel_rfl) (by kernel_rfl) ?_
      refine TL_q rfl (QV_add (r := ((i + 1 : Nat) : Int)) rfl rfl (by omega) (by omega) (by omega)) ?_
      refine TL_q rfl (QV_move rfl) ?_
      refine TL_nil ?_
      exact ⟨(i + 1, ⟨_, lv4, qv4⟩), ⟨by omega, h3.after h4, by show muq (meetF D part S3 (((idxU D n D.length).getD a []).getD i 0) (decide (S1.val.getD a 0 = 2))) + 1 = muq S1; omega, hpe4⟩, ⟨rfl, rfl, rfl, rfl, rfl, rfl, rfl, trivial⟩, by show ((idxU D n D.length).getD a []).length - (i + 1) < ((idxU D n D.length).getD a []).length - i; omega⟩
    ·
      have hie : i = ((idxU D n D.length).getD a []).length := by have := of_decide_eq_false hc59; omega
      subst hie
      rw [List.drop_length, List.map_nil, List.nil_append] at hpe3
      obtain ⟨ve, hve, hintsE⟩ := htabE a ha
      obtain ⟨pa, pc, rfl, hpc, hrowE⟩ := hintsE.nat
      have hshE := idxE_short D n D.length (Nat.le_refl _) a
      rw [show (D.map Rl.rd).take D.length = D.map Rl.rd by rw [List.take_of_length_le (by simp)]] at hshE
      have ec3 := h3.m.c.c3
      rw [hteE] at ec3
      refine W_exit 2 (by kernel_rfl) ?_
      show T Try.prog 87 (C Try.f44 [1, 1, 1, 1, 0, 1, 0, 0]) _ _ _
      refine W_seq (by kernel_rfl) ?_
      -- R9
      refine W_reg (l := [⟨some 68, Op.move (Operand.tmp 0), 25, none⟩, ⟨some 69, Op.nilCheck (Operand.tmp 68), 0, none⟩, ⟨some 70, Op.fieldAddr 61 (Operand.tmp 69) 3, 0, none⟩, ⟨some 71, Op.load 34 (Operand.tmp 70), 34, none⟩, ⟨some 72, Op.move (Operand.tmp 4), 3, none⟩, ⟨some 73, Op.indexAddr 34 (Operand.tmp 71) (Operand.tmp 72), 0, none⟩, ⟨some 74, Op.load 27 (Operand.tmp 73), 27, none⟩, ⟨some 75, Op.call { callee := Callee.builtin Builtin.len, args := #[Operand.tmp 74], argTypes := #[27] }, 3, none⟩, ⟨some 76, Op.move (Operand.const (Value.int IntKind.i64 0)), 3, none⟩]) (by kernel_rfl) (by kernel_rfl) ?_
      refine TL_q rfl (QV_move rfl) ?_
      refine TL_q rfl (QV_nil rfl) ?_
      refine TL_q rfl (QV_field rfl fld61_3) ?_
      refine TL_q rfl (QV_load rfl one34 (ec3)) ?_
      refine TL_q rfl (QV_move rfl) ?_
      refine TL_q rfl (QV_idx1 rfl rfl el34 sz27 (ha)) ?_
      refine TL_q rfl (QV_load rfl one27 (cel_fr hve h3.f (notFX (by omega)))) ?_
      refine TL_q rfl (QV_len rfl el27) ?_
      refine TL_q rfl (QV_move rfl) ?_
      refine TL_nil ?_
      refine W_block 4 (by kernel_rfl) ?_
      refine W_loop (ι := Nat × FS) (fun i w5 => i.1 ≤ ((idxE D n D.length).getD a []).length ∧ SMF w w5 L n D i.2.S Prot i.2.lv i.2.qv ∧ muq i.2.S + 1 = muq S1 ∧ PE i.2.S ((((idxE D n D.length).getD a []).drop i.1).map (fun r => (r, !decide (S1.val.getD a 0 = 2))))) (fun i => [(0, .pointer (some ⟨L.s + 9, 0, none⟩)), (1, .int .i64 (part : Int)), (5, .bool (decide (S1.val.getD a 0 = 2))), (74, .slice pa ((idxE D n D.length).getD a []).length pc), (75, .int .i64 (((idxE D n D.length).getD a []).length : Nat)), (76, .int .i64 (i.1 : Int))]) (fun i => ((idxE D n D.length).getD a []).length - i.1) (0, ⟨S3, lv3, qv3⟩) (by kernel_rfl) ?_ ?_ ?_
      · exact ⟨Nat.zero_le _, h3, hm3, hpe3⟩
      · exact ⟨rfl, rfl, rfl, rfl, rfl, rfl, trivial⟩
      rintro ⟨i, S5, lv5, qv5⟩ w5 ⟨hi, h5, hm5, hpe5⟩
      dsimp only at hi h5 hm5 hpe5 ⊢
      refine W_seq (by kernel_rfl) ?_
      -- R10
      refine W_reg (l := [⟨some 77, Op.binOp BinOp.lss 3 (Operand.tmp 76) (Operand.tmp 75) 3, 0, none⟩]) (by kernel_rfl) (by kernel_rfl) ?_
      refine TL_q rfl (QV_lss rfl rfl) ?_
      refine TL_nil ?_
      refine W_seq (by kernel_rfl) ?_
      refine W_cond (c := Operand.tmp 77) (by kernel_rfl) rfl (fun hc77 => ?_) (fun hc77 => ?_)
      ·
        have hlt : i < ((idxE D n D.length).getD a []).length := by have := of_decide_eq_true hc77; omega
        obtain ⟨b1, o1, rfl, hb1, hc1⟩ := hrowE (by omega)
        obtain ⟨hrl, hrm⟩ := (mem_idxE D n D.length (Nat.le_refl _) hok a _).1 (getD_mem 0 hlt)
        rw [drop_getD _ i 0 hlt, List.map_cons] at hpe5
        have hb5 := hbnd _ _ hpe5
        have hpe6 := hmeet _ _ _ _ hpe5
        refine W_skip (by kernel_rfl) ?_
        refine W_seq (by kernel_rfl) ?_
        refine W_block 5 (by kernel_rfl) ?_
        refine W_seq (by kernel_rfl) ?_
        -- R11
        refine W_reg (l := [⟨some 78, Op.indexAddr 27 (Operand.tmp 74) (Operand.tmp 76), 0, none⟩, ⟨some 79, Op.load 3 (Operand.tmp 78), 3, none⟩, ⟨some 9, Op.assign (Operand.tmp 79), 3, none⟩]) (by kernel_rfl) (by kernel_rfl) ?_
        refine TL_q rfl (QV_idxO rfl rfl el27 sz3 (hlt)) ?_
        refine TL_q rfl (QV_load rfl one3 (cel_fr (hc1 i hlt) h5.f (notFX (by omega)))) ?_
        refine TL_q rfl (QV_assign rfl) ?_
        refine TL_nil ?_
        -- R12
        refine W_reg (l := [⟨some 80, Op.move (Operand.tmp 0), 25, none⟩, ⟨some 81, Op.move (Operand.tmp 9), 3, none⟩, ⟨some 82, Op.move (Operand.tmp 1), 3, none⟩, ⟨some 83, Op.move (Operand.tmp 5), 4, none⟩, ⟨some 84, Op.unOp UnOp.not 4 (Operand.tmp 83), 4, none⟩, ⟨some 85, Op.call { callee := Callee.value (Operand.func 45), args := #[Operand.tmp 80, Operand.tmp 81, Operand.tmp 82, Operand.tmp 84], argTypes := #[25, 3, 3, 4] }, 0, none⟩]) (by kernel_rfl) (by kernel_rfl) ?_
        refine TL_q rfl (QV_move rfl) ?_
        refine TL_q rfl (QV_move rfl) ?_
        refine TL_q rfl (QV_move rfl) ?_
        refine TL_q rfl (QV_move rfl) ?_
        refine TL_q rfl (QV_not rfl) ?_
        refine TL_e (EV_callD rfl rfl rfl call45 (meetWalk w5 L n D S5 Prot lv5 qv5 h5.self hok _ part hrl _ hb5.1 hb5.2.1 (hb5.2.2.1 _ hrl) (hb5.2.2.2 _ ((hok _ (getD_mem rl0 hrl)).1))) fun r6 w6 hr6 => ?_)
        obtain ⟨rfl, lv6, qv6, h6⟩ := hr6
        have hm6 := muq_meet D part S5 (((idxE D n D.length).getD a []).getD i 0) (!decide (S1.val.getD a 0 = 2))
        refine TL_nil ?_
        -- R13
        refine W_reg (l := [⟨some 86, Op.binOp BinOp.add 3 (Operand.tmp 76) (Operand.const (Value.int IntKind.i64 1)) 3, 3, none⟩, ⟨some 76, Op.move (Operand.tmp 86), 3, none⟩]) (by kernel_rfl) (by kernel_rfl) ?_
        refine TL_q rfl (QV_add (r := ((i + 1 : Nat) : Int)) rfl rfl (by omega) (by omega) (by omega)) ?_
        refine TL_q rfl (QV_move rfl) ?_
        refine TL_nil ?_
        exact ⟨(i + 1, ⟨_, lv6, qv6⟩), ⟨by omega, h5.after h6, by show muq (meetF D part S5 (((idxE D n D.length).getD a []).getD i 0) (!decide (S1.val.getD a 0 = 2))) + 1 = muq S1; omega, hpe6⟩, ⟨rfl, rfl, rfl, rfl, rfl, rfl, trivial⟩, by show ((idxE D n D.length).getD a []).length - (i + 1) < ((idxE D n D.length).getD a []).length - i; omega⟩
      ·
        have hie : i = ((idxE D n D.length).getD a []).length := by have := of_decide_eq_false hc77; omega
        subst hie
        rw [List.drop_length, List.map_nil] at hpe5
        refine W_exit 4 (by kernel_rfl) ?_
        exact ⟨⟨S5, lv5, qv5⟩, ⟨hpe5, h5⟩, ⟨rfl, rfl, trivial⟩, by show muq S5 < muq S1; omega⟩
  ·
    have hnil : S1.queue = [] := by have := of_decide_eq_false hc15; exact List.length_eq_zero_iff.1 (by omega)
    refine W_exit 0 (by kernel_rfl) ?_
    exact ⟨_, rfl, rfl, S1, lv1, _, hpe, hnil, h1⟩

end Go.Proofs.Qxb6600121a
