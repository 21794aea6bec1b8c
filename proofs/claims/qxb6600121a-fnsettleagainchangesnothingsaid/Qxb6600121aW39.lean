/-
   Walks written by program (wip/gen).
-/
import Derived.Test.Qxb6600121aW40
namespace Go.Proofs.Qxb6600121a
open Go Go.Proofs
set_option linter.unusedVariables false
set_option linter.unusedSimpArgs false

def iniF (part : Nat) (S : SS) (a : Nat) : SS := { S with part := S.part.set a (part : Int), source := S.source.set a (-1) }
def st1 (part : Nat) (A : List Nat) (S : SS) : SS := { A.foldl (iniF part) S with lost := A }
def opn0 (S : SS) (a : Nat) : SS := { S with opn := S.opn.set a 0 }
def bgF (D : List Rl) (a : Nat) (S : SS) (r : Nat) : SS :=
  if dead D S r = true then { beginF D S r with closed := (beginF D S r).closed.set r (dead D S r) }
  else { beginF D S r with closed := (beginF D S r).closed.set r (dead D S r), opn := S.opn.set a (S.opn.getD a 0 + 1) }
def bgA (D : List Rl) (n : Nat) (S : SS) (a : Nat) : SS := ((idxH D n D.length).getD a []).foldl (bgF D a) (opn0 S a)
def st2 (D : List Rl) (n : Nat) (A : List Nat) (S : SS) : SS := A.foldl (bgA D n) S
def pvF (a : Nat) (S : SS) (r : Nat) : SS := if S.closed.getD r false = false ∧ S.wait.getD r 0 = 0 then decideF S a 2 else S
def pvA (D : List Rl) (n : Nat) (S : SS) (a : Nat) : SS := ((idxH D n D.length).getD a []).foldl (pvF a) S
def st3 (D : List Rl) (n : Nat) (A : List Nat) (S : SS) : SS := A.foldl (pvA D n) S
theorem foldl_take_succ {β : Type} (l : List Nat) (i d : Nat) (h : i < l.length) (f : β → Nat → β) (b : β) : (l.take (i + 1)).foldl f b = f ((l.take i).foldl f b) (l.getD i d) := by
  rw [take_succ_getD l i d h, List.foldl_append]
  rfl
theorem st2_succ (D : List Rl) (n : Nat) (A : List Nat) (i : Nat) (h : i < A.length) (S : SS) : st2 D n (A.take (i + 1)) S = ((idxH D n D.length).getD (A.getD i 0) []).foldl (bgF D (A.getD i 0)) (opn0 (st2 D n (A.take i) S) (A.getD i 0)) := foldl_take_succ A i 0 h (bgA D n) S
theorem st3_succ (D : List Rl) (n : Nat) (A : List Nat) (i : Nat) (h : i < A.length) (S : SS) : st3 D n (A.take (i + 1)) S = ((idxH D n D.length).getD (A.getD i 0) []).foldl (pvF (A.getD i 0)) (st3 D n (A.take i) S) := foldl_take_succ A i 0 h (pvA D n) S
theorem foldl_inv {β : Type} (l : List Nat) (f : β → Nat → β) (P : β → Prop) (h : ∀ b x, P b → P (f b x)) (b : β) (hb : P b) : P (l.foldl f b) := by
  induction l generalizing b with
  | nil => exact hb
  | cons x l ih => exact ih _ (h b x hb)
theorem muq_st1 (part : Nat) (A : List Nat) (S : SS) : muq (st1 part A S) = muq S :=
  foldl_inv A (iniF part) (fun T => muq T = muq S) (fun _ _ e => e) S rfl
theorem muq_bg (D : List Rl) (a : Nat) (S : SS) (r : Nat) : muq (bgF D a S r) = muq S := by
  unfold bgF
  split
  · show und (beginF D S r).val + (beginF D S r).queue.length = _
    unfold beginF
    split <;> rfl
  · show und (beginF D S r).val + (beginF D S r).queue.length = _
    unfold beginF
    split <;> rfl
theorem muq_st2 (D : List Rl) (n : Nat) (A : List Nat) (S : SS) : muq (st2 D n A S) = muq S :=
  foldl_inv A (bgA D n) (fun T => muq T = muq S) (fun T a e => foldl_inv _ (bgF D a) (fun T => muq T = muq S) (fun T r e => by rw [muq_bg]; exact e) (opn0 T a) e) S rfl
theorem muq_pv (a : Nat) (S : SS) (r : Nat) : muq (pvF a S r) = muq S := by
  unfold pvF
  split
  · exact muq_decide _ _ _ (by decide)
  · rfl
theorem und_decide (S : SS) (a : Nat) (t : Int) (ht : t ≠ 1) : und (decideF S a t).val ≤ und S.val := by
  unfold decideF
  split
  · rename_i h
    have := und_set S.val a t ht h
    show und (S.val.set a t) ≤ _
    omega
  · exact Nat.le_refl _
theorem und_lose (S : SS) (h r : Nat) : (loseIf S h r).val = S.val := by unfold loseIf; split <;> rfl
theorem und_meet (D : List Rl) (part : Nat) (S : SS) (r : Nat) (m : Bool) : und (meetF D part S r m).val ≤ und S.val := by
  unfold meetF
  split
  · exact Nat.le_refl _
  · split
    · unfold refIf
      have e : (decO (loseIf (closeF S r) (D.getD r rl0).head r) (D.getD r rl0).head).val = S.val := und_lose (closeF S r) _ r
      split
      · have := und_decide (decO (loseIf (closeF S r) (D.getD r rl0).head r) (D.getD r rl0).head) (D.getD r rl0).head 0 (by decide)
        rw [e] at this
        exact this
      · rw [e]; exact Nat.le_refl _
    · unfold prvIf
      split
      · exact und_decide (decW S r) _ 2 (by decide)
      · exact Nat.le_refl _
/-- What settling a component must keep, for its walk. -/
structure Stl (D : List Rl) (n part : Nat) (A : List Nat) (S : SS) (R : SS → Prop) where
  PE : SS → List (Nat × Bool) → Prop
  hbnd : ∀ S evs, PE S evs → Bnd n D S
  hpop : ∀ S a q, PE S [] → S.queue = q ++ [a] → a < n ∧ PE { S with queue := q } (evts D n S a)
  hmeet : ∀ S r m evs, PE S ((r, m) :: evs) → PE (meetF D part S r m) evs
  h0 : PE (st3 D n A (st2 D n A (st1 part A S))) []
  srch : ∀ S, PE S [] → S.queue = [] → Srch D n part S (fun b S' => if b = true then PE S' [] ∧ und S'.val < und S.val else R S')
set_option maxRecDepth 10000 in
set_option maxHeartbeats 4000000 in
theorem settleWalk (w : World) (L : Lay) (n : Nat) (D : List Rl) (S : SS) (Prot : Nat → Prop) (lv qv : Value) (h : SMF w w L n D S Prot lv qv) (hok : Okay n D) (hl : D.length + tot (D.map Rl.rd) ≤ 1048576) (hn : n ≤ 65536) (part : Nat) (A : List Nat) (hA : ∀ x ∈ A, x < n) (hne : 0 < A.length) (hAl : A.length ≤ 1048576) (av : Value) (hav : IntsAt w.heap Prot av (casts A)) (hmq : muq S ≤ 1000000000000) (R : SS → Prop) (X : Stl D n part A S R) :
    CallsS Try.prog 39 #[.pointer (some ⟨L.s + 9, 0, none⟩), .int .i64 (part : Int), av] w (fun v w' => v = .tuple #[] ∧ ∃ S' lv' qv', R S' ∧ SMF w w' L n D S' Prot lv' qv') := by
  obtain ⟨tb, htbv, htbB, htab⟩ := h.m.c.stat.bh
  obtain ⟨aa, ac, rfl, hac, hav2⟩ := hav.nat
  obtain ⟨ab, ao, rfl, habP, hcel⟩ := hav2 hne
  have hpf : ¬ FX L Prot ab := fun e => e.2.2 habP
  refine W_fun [] Try.func39 rfl Try.ntmps39 Try.results39 (Nat.le_of_ble_eq_true rfl) ?_
  refine W_seq (by kernel_rfl) ?_
  refine W_seq (by kernel_rfl) ?_
  -- R0
  refine W_reg (l := [⟨some 16, Op.move (Operand.tmp 2), 27, none⟩, ⟨some 17, Op.call { callee := Callee.builtin Builtin.len, args := #[Operand.tmp 16], argTypes := #[27] }, 3, none⟩, ⟨some 18, Op.move (Operand.const (Value.int IntKind.i64 0)), 3, none⟩]) (by kernel_rfl) (by kernel_rfl) ?_
  refine TL_q rfl (QV_move rfl) ?_
  refine TL_q rfl (QV_len rfl el27) ?_
  refine TL_q rfl (QV_move rfl) ?_
  refine TL_nil ?_
  refine W_block 0 (by kernel_rfl) ?_
  refine W_loop (fun (i : Nat) w1 => i ≤ A.length ∧ SMF w w1 L n D ((A.take i).foldl (iniF part) S) Prot lv qv) (fun i => [(0, .pointer (some ⟨L.s + 9, 0, none⟩)), (1, .int .i64 (part : Int)), (2, .slice (some ⟨ab, ao, none⟩) A.length ac), (16, .slice (some ⟨ab, ao, none⟩) A.length ac), (17, .int .i64 (A.length : Nat)), (18, .int .i64 (i : Int))]) (fun i => A.length - i) 0 (by kernel_rfl) ?_ ?_ ?_
  · exact ⟨Nat.zero_le _, h⟩
  · exact ⟨rfl, rfl, rfl, rfl, rfl, rfl, trivial⟩
  rintro i w1 ⟨hi, h1⟩
  refine W_seq (by kernel_rfl) ?_
  -- R1
  refine W_reg (l := [⟨some 19, Op.binOp BinOp.lss 3 (Operand.tmp 18) (Operand.tmp 17) 3, 0, none⟩]) (by kernel_rfl) (by kernel_rfl) ?_
  refine TL_q rfl (QV_lss rfl rfl) ?_
  refine TL_nil ?_
  refine W_seq (by kernel_rfl) ?_
  refine W_cond (c := Operand.tmp 19) (by kernel_rfl) rfl (fun hc19 => ?_) (fun hc19 => ?_)
  ·
    have hlt : i < A.length := by have := of_decide_eq_true hc19; omega
    have ha := hA _ (getD_mem 0 hlt)
    have hfs := foldl_take_succ A i 0 hlt (iniF part) S
    refine W_skip (by kernel_rfl) ?_
    refine W_seq (by kernel_rfl) ?_
    refine W_block 1 (by kernel_rfl) ?_
    refine W_seq (by kernel_rfl) ?_
    -- R2
    refine W_reg (l := [⟨some 20, Op.indexAddr 27 (Operand.tmp 16) (Operand.tmp 18), 0, none⟩, ⟨some 21, Op.load 3 (Operand.tmp 20), 3, none⟩, ⟨some 7, Op.assign (Operand.tmp 21), 3, none⟩]) (by kernel_rfl) (by kernel_rfl) ?_
    refine TL_q rfl (QV_idxO rfl rfl el27 sz3 (hlt)) ?_
    refine TL_q rfl (QV_load rfl one3 (cel_fr (hcel i hlt) h1.f hpf)) ?_
    refine TL_q rfl (QV_assign rfl) ?_
    refine TL_nil ?_
    -- R3
    refine W_regH (fun h => cel h (L.s + 9) 5 = some (.slice (some ⟨L.s + 2, 0, none⟩) n n) ∧ cel h (L.s + 9) 7 = some (.slice (some ⟨L.s + 3, 0, none⟩) n n)) (l := [(0, true, ⟨some 22, Op.move (Operand.tmp 0), 25, none⟩), (1, true, ⟨some 23, Op.nilCheck (Operand.tmp 22), 0, none⟩), (2, true, ⟨some 24, Op.fieldAddr 61 (Operand.tmp 23) 5, 0, none⟩), (3, true, ⟨some 25, Op.load 27 (Operand.tmp 24), 27, none⟩), (4, true, ⟨some 26, Op.move (Operand.tmp 7), 3, none⟩), (5, true, ⟨some 27, Op.move (Operand.tmp 0), 25, none⟩), (6, true, ⟨some 28, Op.nilCheck (Operand.tmp 27), 0, none⟩), (7, true, ⟨some 29, Op.fieldAddr 61 (Operand.tmp 28) 7, 0, none⟩), (8, true, ⟨some 30, Op.load 27 (Operand.tmp 29), 27, none⟩), (9, true, ⟨some 31, Op.move (Operand.tmp 7), 3, none⟩), (10, true, ⟨some 32, Op.move (Operand.tmp 1), 3, none⟩), (11, true, ⟨some 33, Op.indexAddr 27 (Operand.tmp 25) (Operand.tmp 26), 0, none⟩), (12, false, ⟨none, Op.store 3 (Operand.tmp 33) (Operand.tmp 32), 0, none⟩), (13, true, ⟨some 34, Op.indexAddr 27 (Operand.tmp 30) (Operand.tmp 31), 0, none⟩), (14, false, ⟨none, Op.store 3 (Operand.tmp 34) (Operand.const (Value.int IntKind.i64 (-1))), 0, none⟩)]) mix (by kernel_rfl) (by kernel_rfl) (by kernel_rfl) ⟨by kernel_rfl, by kernel_rfl, ⟨by kernel_rfl, by kernel_rfl, ⟨by kernel_rfl, by kernel_rfl, ⟨by kernel_rfl, by kernel_rfl, ⟨by kernel_rfl, by kernel_rfl, ⟨by kernel_rfl, by kernel_rfl, ⟨by kernel_rfl, by kernel_rfl, ⟨by kernel_rfl, by kernel_rfl, ⟨by kernel_rfl, by kernel_rfl, ⟨by kernel_rfl, by kernel_rfl, ⟨by kernel_rfl, by kernel_rfl, ⟨by kernel_rfl, by kernel_rfl, ⟨by kernel_rfl, by kernel_rfl, ⟨by kernel_rfl, by kernel_rfl, ⟨by kernel_rfl, by kernel_rfl, ordOk_nil (by kernel_rfl)⟩⟩⟩⟩⟩⟩⟩⟩⟩⟩⟩⟩⟩⟩⟩ ⟨h1.m.c.c5, h1.m.c.c7⟩ ?_
    refine TH_q rfl (fun _ hS => QV_move rfl) ?_
    refine TH_q rfl (fun _ hS => QV_nil rfl) ?_
    refine TH_q rfl (fun _ hS => QV_field rfl fld61_5) ?_
    refine TH_q rfl (fun _ hS => QV_load rfl one27 (hS.1)) ?_
    refine TH_q rfl (fun _ hS => QV_move rfl) ?_
    refine TH_q rfl (fun _ hS => QV_move rfl) ?_
    refine TH_q rfl (fun _ hS => QV_nil rfl) ?_
    refine TH_q rfl (fun _ hS => QV_field rfl fld61_7) ?_
    refine TH_q rfl (fun _ hS => QV_load rfl one27 (hS.2)) ?_
    refine TH_q rfl (fun _ hS => QV_move rfl) ?_
    refine TH_q rfl (fun _ hS => QV_move rfl) ?_
    refine TH_q rfl (fun _ hS => QV_idx1 rfl rfl el27 sz3 (ha)) ?_
    refine TH_e rfl (EV_store rfl rfl rfl sz3 h1.m.c.bpart (by rw [ints_len, h1.m.c.npart]; exact ha) fun w2 u2 => ?_)
    have h2 := h1.setPart u2
    refine ⟨⟨h2.m.c.c5, h2.m.c.c7⟩, ?_⟩
    refine TH_q rfl (fun _ hS => QV_idx1 rfl rfl el27 sz3 (ha)) ?_
    refine TH_e rfl (EV_store rfl rfl rfl sz3 h2.m.c.bsource (by rw [ints_len, h2.m.c.nsource]; exact ha) fun w3 u3 => ?_)
    have h3 := h2.setSource u3
    refine ⟨⟨h3.m.c.c5, h3.m.c.c7⟩, ?_⟩
    refine TH_nil ?_
    -- R4
    refine W_reg (l := [⟨some 35, Op.binOp BinOp.add 3 (Operand.tmp 18) (Operand.const (Value.int IntKind.i64 1)) 3, 3, none⟩, ⟨some 18, Op.move (Operand.tmp 35), 3, none⟩]) (by kernel_rfl) (by kernel_rfl) ?_
    refine TL_q rfl (QV_add (r := ((i + 1 : Nat) : Int)) rfl rfl (by omega) (by omega) (by omega)) ?_
    refine TL_q rfl (QV_move rfl) ?_
    refine TL_nil ?_
    exact ⟨i + 1, ⟨by omega, h3.castS (by rw [hfs]; rfl)⟩, ⟨rfl, rfl, rfl, rfl, rfl, rfl, trivial⟩, by omega⟩
  ·
    have hie : i = A.length := by have := of_decide_eq_false hc19; omega
    subst hie
    rw [List.take_length] at h1
    refine W_exit 0 (by kernel_rfl) ?_
    show T Try.prog 149 (C Try.f39 [1]) _ _ _
    refine W_seq (by kernel_rfl) ?_
    -- R5
    obtain ⟨la, lc, rfl, hlc⟩ := h1.m.rl.form
    have hnews : ∀ j u, (nats A)[j]? = some u → cel w1.heap ab (ao + j) = some u := fun j u hu => by
      have hj : j < A.length := by have := (List.getElem?_eq_some_iff.1 hu).1; rw [nats_len] at this; exact this
      rw [nats_get hj] at hu
      rw [← Option.some.inj hu]
      exact cel_fr (hcel j hj) h1.f hpf
    refine W_reg (l := [⟨some 36, Op.move (Operand.tmp 0), 25, none⟩, ⟨some 37, Op.move (Operand.tmp 0), 25, none⟩, ⟨some 38, Op.nilCheck (Operand.tmp 37), 0, none⟩, ⟨some 39, Op.fieldAddr 61 (Operand.tmp 38) 8, 0, none⟩, ⟨some 40, Op.load 27 (Operand.tmp 39), 27, none⟩, ⟨some 41, Op.slice 27 (Operand.tmp 40) none (some (Operand.const (Value.int IntKind.i64 0))) none, 27, none⟩, ⟨some 42, Op.move (Operand.tmp 2), 27, none⟩, ⟨some 43, Op.call { callee := Callee.builtin Builtin.append, args := #[Operand.tmp 41, Operand.tmp 42], argTypes := #[27, 27] }, 27, none⟩, ⟨some 44, Op.nilCheck (Operand.tmp 36), 0, none⟩, ⟨some 45, Op.fieldAddr 61 (Operand.tmp 44) 8, 0, none⟩, ⟨none, Op.store 27 (Operand.tmp 45) (Operand.tmp 43), 0, none⟩]) (by kernel_rfl) (by kernel_rfl) ?_
    refine TL_q rfl (QV_move rfl) ?_
    refine TL_q rfl (QV_move rfl) ?_
    refine TL_q rfl (QV_nil rfl) ?_
    refine TL_q rfl (QV_field rfl fld61_8) ?_
    refine TL_q rfl (QV_load rfl one27 (h1.m.c.c8)) ?_
    refine TL_q rfl (QV_sliceTo rfl rfl el27 sz3 (Nat.zero_le _)) ?_
    refine TL_q rfl (QV_move rfl) ?_
    refine TL_e (EV_append rfl rfl rfl el27 in3 rfl (by decide) (h1.m.rl.take (Nat.zero_le _)) (by rw [nats_len]; omega) hnews (by intro u hu; obtain ⟨x, -, rfl⟩ := List.mem_map.1 hu; rfl) (by show (0 + A.length) * 8 ≤ 140737488355328; omega) (by show 0 + A.length ≤ 140737488355328; omega) fun v4 w4 hrow4 h14 hat4 => ?_)
    obtain ⟨a4, c4, rfl, -⟩ := hrow4.form
    refine TL_q rfl (QV_nil rfl) ?_
    refine TL_q rfl (QV_field rfl fld61_8) ?_
    refine TL_e (EV_store rfl rfl rfl sz27 (h1.m.c.sol.fr h14 (fun e => by have := (h1.m.ol _ (by cases la <;> exact e)).1; omega)) (by simp [solCells]) fun w5 u5 => ?_)
    have h5 : SMF w w5 L n D (st1 part A S) Prot _ qv := h1.setLost (xs := A) h14 (fun g hg _ => by cases la <;> exact hg) (by simpa using hrow4) (by
      rcases hat4 with e | e
      · exact .inl (by rw [e]; cases la <;> rfl)
      · right; intro g hg; rw [e] at hg; have : w1.heap.size = g := by simpa using hg
        omega) u5
    obtain ⟨lv5, hlv5⟩ : ∃ v, v = Value.slice a4 (0 + A.length) c4 := ⟨_, rfl⟩
    rw [← hlv5] at h5
    obtain ⟨S5, hS5⟩ : ∃ s, s = st1 part A S := ⟨_, rfl⟩
    rw [← hS5] at h5
    refine TL_nil ?_
    refine W_seq (by kernel_rfl) ?_
    refine W_seq (by kernel_rfl) ?_
    -- R6
    refine W_reg (l := [⟨some 46, Op.move (Operand.tmp 2), 27, none⟩, ⟨some 47, Op.call { callee := Callee.builtin Builtin.len, args := #[Operand.tmp 46], argTypes := #[27] }, 3, none⟩, ⟨some 48, Op.move (Operand.const (Value.int IntKind.i64 0)), 3, none⟩]) (by kernel_rfl) (by kernel_rfl) ?_
    refine TL_q rfl (QV_move rfl) ?_
    refine TL_q rfl (QV_len rfl el27) ?_
    refine TL_q rfl (QV_move rfl) ?_
    refine TL_nil ?_
    refine W_block 2 (by kernel_rfl) ?_
    refine W_loop (fun (i : Nat) w6 => i ≤ A.length ∧ SMF w w6 L n D (st2 D n (A.take i) S5) Prot lv5 qv) (fun i => [(0, .pointer (some ⟨L.s + 9, 0, none⟩)), (1, .int .i64 (part : Int)), (2, .slice (some ⟨ab, ao, none⟩) A.length ac), (46, .slice (some ⟨ab, ao, none⟩) A.length ac), (47, .int .i64 (A.length : Nat)), (48, .int .i64 (i : Int))]) (fun i => A.length - i) 0 (by kernel_rfl) ?_ ?_ ?_
    · exact ⟨Nat.zero_le _, h5⟩
    · exact ⟨rfl, rfl, rfl, rfl, rfl, rfl, trivial⟩
    rintro i w6 ⟨hi, h6⟩
    refine W_seq (by kernel_rfl) ?_
    -- R7
    refine W_reg (l := [⟨some 49, Op.binOp BinOp.lss 3 (Operand.tmp 48) (Operand.tmp 47) 3, 0, none⟩]) (by kernel_rfl) (by kernel_rfl) ?_
    refine TL_q rfl (QV_lss rfl rfl) ?_
    refine TL_nil ?_
    refine W_seq (by kernel_rfl) ?_
    refine W_cond (c := Operand.tmp 49) (by kernel_rfl) rfl (fun hc49 => ?_) (fun hc49 => ?_)
    ·
      have hlt : i < A.length := by have := of_decide_eq_true hc49; omega
      have ha := hA _ (getD_mem 0 hlt)
      have hfs := st2_succ D n A i hlt S5
      obtain ⟨S6, hS6⟩ : ∃ s, s = st2 D n (A.take i) S5 := ⟨_, rfl⟩
      rw [← hS6] at h6 hfs
      obtain ⟨va, hva, hints⟩ := htab _ ha
      obtain ⟨qa, qc, rfl, hqc, hrow⟩ := hints.nat
      have hsh := idxH_short D n D.length (A.getD i 0)
      refine W_skip (by kernel_rfl) ?_
      refine W_seq (by kernel_rfl) ?_
      refine W_block 3 (by kernel_rfl) ?_
      refine W_seq (by kernel_rfl) ?_
      -- R8
      refine W_reg (l := [⟨some 50, Op.indexAddr 27 (Operand.tmp 46) (Operand.tmp 48), 0, none⟩, ⟨some 51, Op.load 3 (Operand.tmp 50), 3, none⟩, ⟨some 9, Op.assign (Operand.tmp 51), 3, none⟩]) (by kernel_rfl) (by kernel_rfl) ?_
      refine TL_q rfl (QV_idxO rfl rfl el27 sz3 (hlt)) ?_
      refine TL_q rfl (QV_load rfl one3 (cel_fr (hcel i hlt) h6.f hpf)) ?_
      refine TL_q rfl (QV_assign rfl) ?_
      refine TL_nil ?_
      refine W_seq (by kernel_rfl) ?_
      -- R9
      refine W_reg (l := [⟨some 52, Op.move (Operand.tmp 0), 25, none⟩, ⟨some 53, Op.nilCheck (Operand.tmp 52), 0, none⟩, ⟨some 54, Op.fieldAddr 61 (Operand.tmp 53) 6, 0, none⟩, ⟨some 55, Op.load 27 (Operand.tmp 54), 27, none⟩, ⟨some 56, Op.move (Operand.tmp 9), 3, none⟩, ⟨some 57, Op.indexAddr 27 (Operand.tmp 55) (Operand.tmp 56), 0, none⟩, ⟨none, Op.store 3 (Operand.tmp 57) (Operand.const (Value.int IntKind.i64 0)), 0, none⟩]) (by kernel_rfl) (by kernel_rfl) ?_
      refine TL_q rfl (QV_move rfl) ?_
      refine TL_q rfl (QV_nil rfl) ?_
      refine TL_q rfl (QV_field rfl fld61_6) ?_
      refine TL_q rfl (QV_load rfl one27 (h6.m.c.c6)) ?_
      refine TL_q rfl (QV_move rfl) ?_
      refine TL_q rfl (QV_idx1 rfl rfl el27 sz3 (ha)) ?_
      refine TL_e (EV_store rfl rfl rfl sz3 h6.m.c.bopn (by rw [ints_len, h6.m.c.nopn]; exact ha) fun w7 u7 => ?_)
      have h7 : SMF w w7 L n D (opn0 S6 (A.getD i 0)) Prot lv5 qv := h6.setOpn u7
      have ec1 := h7.m.c.c1
      rw [htbv] at ec1
      have hz7 : (opn0 S6 (A.getD i 0)).opn.getD (A.getD i 0) 0 = 0 := getD_set_eq _ _ _ _ (by rw [h6.m.c.nopn]; exact ha)
      refine TL_nil ?_
      refine W_seq (by kernel_rfl) ?_
      -- R10
      refine W_reg (l := [⟨some 58, Op.move (Operand.tmp 0), 25, none⟩, ⟨some 59, Op.nilCheck (Operand.tmp 58), 0, none⟩, ⟨some 60, Op.fieldAddr 61 (Operand.tmp 59) 1, 0, none⟩, ⟨some 61, Op.load 34 (Operand.tmp 60), 34, none⟩, ⟨some 62, Op.move (Operand.tmp 9), 3, none⟩, ⟨some 63, Op.indexAddr 34 (Operand.tmp 61) (Operand.tmp 62), 0, none⟩, ⟨some 64, Op.load 27 (Operand.tmp 63), 27, none⟩, ⟨some 65, Op.call { callee := Callee.builtin Builtin.len, args := #[Operand.tmp 64], argTypes := #[27] }, 3, none⟩, ⟨some 66, Op.move (Operand.const (Value.int IntKind.i64 0)), 3, none⟩]) (by kernel_rfl) (by kernel_rfl) ?_
      refine TL_q rfl (QV_move rfl) ?_
      refine TL_q rfl (QV_nil rfl) ?_
      refine TL_q rfl (QV_field rfl fld61_1) ?_
      refine TL_q rfl (QV_load rfl one34 (ec1)) ?_
      refine TL_q rfl (QV_move rfl) ?_
      refine TL_q rfl (QV_idx1 rfl rfl el34 sz27 (ha)) ?_
      refine TL_q rfl (QV_load rfl one27 (cel_fr hva h7.f (notFX (by omega)))) ?_
      refine TL_q rfl (QV_len rfl el27) ?_
      refine TL_q rfl (QV_move rfl) ?_
      refine TL_nil ?_
      refine W_block 4 (by kernel_rfl) ?_
      refine W_loop (fun (j : Nat) w8 => j ≤ ((idxH D n D.length).getD (A.getD i 0) []).length ∧ (0 ≤ ((((idxH D n D.length).getD (A.getD i 0) []).take j).foldl (bgF D (A.getD i 0)) (opn0 S6 (A.getD i 0))).opn.getD (A.getD i 0) 0 ∧ ((((idxH D n D.length).getD (A.getD i 0) []).take j).foldl (bgF D (A.getD i 0)) (opn0 S6 (A.getD i 0))).opn.getD (A.getD i 0) 0 ≤ (j : Int)) ∧ SMF w w8 L n D ((((idxH D n D.length).getD (A.getD i 0) []).take j).foldl (bgF D (A.getD i 0)) (opn0 S6 (A.getD i 0))) Prot lv5 qv) (fun j => [(0, .pointer (some ⟨L.s + 9, 0, none⟩)), (1, .int .i64 (part : Int)), (2, .slice (some ⟨ab, ao, none⟩) A.length ac), (46, .slice (some ⟨ab, ao, none⟩) A.length ac), (47, .int .i64 (A.length : Nat)), (48, .int .i64 (i : Int)), (9, .int .i64 (((A.getD i 0) : Nat) : Int)), (64, .slice qa ((idxH D n D.length).getD (A.getD i 0) []).length qc), (65, .int .i64 (((idxH D n D.length).getD (A.getD i 0) []).length : Nat)), (66, .int .i64 (j : Int))]) (fun j => ((idxH D n D.length).getD (A.getD i 0) []).length - j) 0 (by kernel_rfl) ?_ ?_ ?_
      · exact ⟨Nat.zero_le _, ⟨by show 0 ≤ (opn0 S6 (A.getD i 0)).opn.getD (A.getD i 0) 0; omega, by show (opn0 S6 (A.getD i 0)).opn.getD (A.getD i 0) 0 ≤ _; omega⟩, h7⟩
      · exact ⟨rfl, rfl, rfl, rfl, rfl, rfl, rfl, rfl, rfl, rfl, trivial⟩
      rintro j w8 ⟨hj, hob, h8⟩
      refine W_seq (by kernel_rfl) ?_
      -- R11
      refine W_reg (l := [⟨some 67, Op.binOp BinOp.lss 3 (Operand.tmp 66) (Operand.tmp 65) 3, 0, none⟩]) (by kernel_rfl) (by kernel_rfl) ?_
      refine TL_q rfl (QV_lss rfl rfl) ?_
      refine TL_nil ?_
      refine W_seq (by kernel_rfl) ?_
      refine W_cond (c := Operand.tmp 67) (by kernel_rfl) rfl (fun hc67 => ?_) (fun hc67 => ?_)
      ·
        have hjl : j < ((idxH D n D.length).getD (A.getD i 0) []).length := by have := of_decide_eq_true hc67; omega
        obtain ⟨b1, o1, rfl, hb1, hc1⟩ := hrow (by omega)
        obtain ⟨hrl, hrh⟩ := (mem_idxH D n D.length (Nat.le_refl _) hok _ _).1 (getD_mem 0 hjl)
        have hfj := foldl_take_succ ((idxH D n D.length).getD (A.getD i 0) []) j 0 hjl (bgF D (A.getD i 0)) (opn0 S6 (A.getD i 0))
        obtain ⟨S8, hS8⟩ : ∃ s, s = (((idxH D n D.length).getD (A.getD i 0) []).take j).foldl (bgF D (A.getD i 0)) (opn0 S6 (A.getD i 0)) := ⟨_, rfl⟩
        rw [← hS8] at hob h8 hfj
        refine W_skip (by kernel_rfl) ?_
        refine W_seq (by kernel_rfl) ?_
        refine W_block 5 (by kernel_rfl) ?_
        refine W_seq (by kernel_rfl) ?_
        -- R12
        refine W_reg (l := [⟨some 68, Op.indexAddr 27 (Operand.tmp 64) (Operand.tmp 66), 0, none⟩, ⟨some 69, Op.load 3 (Operand.tmp 68), 3, none⟩, ⟨some 11, Op.assign (Operand.tmp 69), 3, none⟩]) (by kernel_rfl) (by kernel_rfl) ?_
        refine TL_q rfl (QV_idxO rfl rfl el27 sz3 (hjl)) ?_
        refine TL_q rfl (QV_load rfl one3 (cel_fr (hc1 j hjl) h8.f (notFX (by omega)))) ?_
        refine TL_q rfl (QV_assign rfl) ?_
        refine TL_nil ?_
        refine W_seq (by kernel_rfl) ?_
        -- R13
        refine W_regH (fun h => cel h (L.s + 9) 11 = some (.slice (some ⟨L.s + 6, 0, none⟩) D.length D.length)) (l := [(0, true, ⟨some 70, Op.move (Operand.tmp 0), 25, none⟩), (1, true, ⟨some 71, Op.nilCheck (Operand.tmp 70), 0, none⟩), (2, true, ⟨some 72, Op.fieldAddr 61 (Operand.tmp 71) 11, 0, none⟩), (3, true, ⟨some 73, Op.load 37 (Operand.tmp 72), 37, none⟩), (4, true, ⟨some 74, Op.move (Operand.tmp 11), 3, none⟩), (5, true, ⟨some 75, Op.move (Operand.tmp 0), 25, none⟩), (6, true, ⟨some 76, Op.move (Operand.tmp 11), 3, none⟩), (7, false, ⟨some 77, Op.call { callee := Callee.value (Operand.func 42), args := #[Operand.tmp 75, Operand.tmp 76], argTypes := #[25, 3] }, 4, none⟩), (8, true, ⟨some 78, Op.unOp UnOp.not 4 (Operand.tmp 77), 4, none⟩), (9, true, ⟨some 79, Op.indexAddr 37 (Operand.tmp 73) (Operand.tmp 74), 0, none⟩), (10, false, ⟨none, Op.store 4 (Operand.tmp 79) (Operand.tmp 78), 0, none⟩)]) mix (by kernel_rfl) (by kernel_rfl) (by kernel_rfl) ⟨by kernel_rfl, by kernel_rfl, ⟨by kernel_rfl, by kernel_rfl, ⟨by kernel_rfl, by kernel_rfl, ⟨by kernel_rfl, by kernel_rfl, ⟨by kernel_rfl, by kernel_rfl, ⟨by kernel_rfl, by kernel_rfl, ⟨by kernel_rfl, by kernel_rfl, ⟨by kernel_rfl, by kernel_rfl, ⟨by kernel_rfl, by kernel_rfl, ⟨by kernel_rfl, by kernel_rfl, ⟨by kernel_rfl, by kernel_rfl, ordOk_nil (by kernel_rfl)⟩⟩⟩⟩⟩⟩⟩⟩⟩⟩⟩ h8.m.c.c11 ?_
        refine TH_q rfl (fun _ hS => QV_move rfl) ?_
        refine TH_q rfl (fun _ hS => QV_nil rfl) ?_
        refine TH_q rfl (fun _ hS => QV_field rfl fld61_11) ?_
        refine TH_q rfl (fun _ hS => QV_load rfl one37 (hS)) ?_
        refine TH_q rfl (fun _ hS => QV_move rfl) ?_
        refine TH_q rfl (fun _ hS => QV_move rfl) ?_
        refine TH_q rfl (fun _ hS => QV_move rfl) ?_
        refine TH_e rfl (EV_callD rfl rfl rfl call42 (beginWalk w8 L n D S8 Prot lv5 qv h8.self hok hl _ hrl) fun r9 w9 hr9 => ?_)
        obtain ⟨rfl, h9⟩ := hr9
        have h9 := h8.after h9
        refine ⟨h9.m.c.c11, ?_⟩
        refine TH_q rfl (fun _ hS => QV_not rfl) ?_
        refine TH_q rfl (fun _ hS => QV_idx1 rfl rfl el37 sz4 (hrl)) ?_
        refine TH_e rfl (EV_store rfl rfl rfl sz4 h9.m.c.bclosed (by rw [bools_len, h9.m.c.nclosed]; exact hrl) fun w10 u10 => ?_)
        rw [Bool.not_not] at u10
        have h10 := h9.setClosed u10
        refine ⟨h10.m.c.c11, ?_⟩
        have gcl := h10.m.c.bclosed.cB (k := (((idxH D n D.length).getD (A.getD i 0) []).getD j 0)) (by rw [h10.m.c.nclosed]; exact hrl)
        have ecl : ((beginF D S8 (((idxH D n D.length).getD (A.getD i 0) []).getD j 0)).closed.set (((idxH D n D.length).getD (A.getD i 0) []).getD j 0) (dead D S8 (((idxH D n D.length).getD (A.getD i 0) []).getD j 0))).getD (((idxH D n D.length).getD (A.getD i 0) []).getD j 0) false = dead D S8 (((idxH D n D.length).getD (A.getD i 0) []).getD j 0) := getD_set_eq _ _ _ _ (by rw [h9.m.c.nclosed]; exact hrl)
        dsimp only at gcl
        rw [ecl] at gcl
        have eop : (beginF D S8 (((idxH D n D.length).getD (A.getD i 0) []).getD j 0)).opn = S8.opn := by unfold beginF; split <;> rfl
        refine TH_nil ?_
        refine W_seq (by kernel_rfl) ?_
        -- R14
        refine W_reg (l := [⟨some 80, Op.move (Operand.tmp 0), 25, none⟩, ⟨some 81, Op.nilCheck (Operand.tmp 80), 0, none⟩, ⟨some 82, Op.fieldAddr 61 (Operand.tmp 81) 11, 0, none⟩, ⟨some 83, Op.load 37 (Operand.tmp 82), 37, none⟩, ⟨some 84, Op.move (Operand.tmp 11), 3, none⟩, ⟨some 85, Op.indexAddr 37 (Operand.tmp 83) (Operand.tmp 84), 0, none⟩, ⟨some 86, Op.load 4 (Operand.tmp 85), 4, none⟩, ⟨some 87, Op.unOp UnOp.not 4 (Operand.tmp 86), 4, none⟩]) (by kernel_rfl) (by kernel_rfl) ?_
        refine TL_q rfl (QV_move rfl) ?_
        refine TL_q rfl (QV_nil rfl) ?_
        refine TL_q rfl (QV_field rfl fld61_11) ?_
        refine TL_q rfl (QV_load rfl one37 (h10.m.c.c11)) ?_
        refine TL_q rfl (QV_move rfl) ?_
        refine TL_q rfl (QV_idx1 rfl rfl el37 sz4 (hrl)) ?_
        refine TL_q rfl (QV_load rfl one4 (gcl)) ?_
        refine TL_q rfl (QV_not rfl) ?_
        refine TL_nil ?_
        refine W_cond (c := Operand.tmp 87) (by kernel_rfl) rfl (fun hc87 => ?_) (fun hc87 => ?_)
        ·
          have hdd : dead D S8 (((idxH D n D.length).getD (A.getD i 0) []).getD j 0) = false := by simpa using hc87
          have gop := h10.m.c.bopn.cI (k := (A.getD i 0)) (by rw [h10.m.c.nopn]; exact ha)
          dsimp only at gop
          rw [eop] at gop
          -- R15
          refine W_reg (l := [⟨some 88, Op.move (Operand.tmp 0), 25, none⟩, ⟨some 89, Op.nilCheck (Operand.tmp 88), 0, none⟩, ⟨some 90, Op.fieldAddr 61 (Operand.tmp 89) 6, 0, none⟩, ⟨some 91, Op.load 27 (Operand.tmp 90), 27, none⟩, ⟨some 92, Op.move (Operand.tmp 9), 3, none⟩, ⟨some 93, Op.indexAddr 27 (Operand.tmp 91) (Operand.tmp 92), 0, none⟩, ⟨some 94, Op.load 3 (Operand.tmp 93), 3, none⟩, ⟨some 95, Op.binOp BinOp.add 3 (Operand.tmp 94) (Operand.const (Value.int IntKind.i64 1)) 3, 3, none⟩, ⟨some 96, Op.indexAddr 27 (Operand.tmp 91) (Operand.tmp 92), 0, none⟩, ⟨none, Op.store 3 (Operand.tmp 96) (Operand.tmp 95), 0, none⟩]) (by kernel_rfl) (by kernel_rfl) ?_
          refine TL_q rfl (QV_move rfl) ?_
          refine TL_q rfl (QV_nil rfl) ?_
          refine TL_q rfl (QV_field rfl fld61_6) ?_
          refine TL_q rfl (QV_load rfl one27 (h10.m.c.c6)) ?_
          refine TL_q rfl (QV_move rfl) ?_
          refine TL_q rfl (QV_idx1 rfl rfl el27 sz3 (ha)) ?_
          refine TL_q rfl (QV_load rfl one3 (gop)) ?_
          refine TL_q rfl (QV_add (r := (S8.opn.getD (A.getD i 0) 0 + 1 : Int)) rfl rfl (by omega) (by omega) (by omega)) ?_
          refine TL_q rfl (QV_idx1 rfl rfl el27 sz3 (ha)) ?_
          refine TL_e (EV_store rfl rfl rfl sz3 h10.m.c.bopn (by rw [ints_len, h10.m.c.nopn]; exact ha) fun w11 u11 => ?_)
          have h11 := h10.setOpn u11
          have ebg2 : { beginF D S8 (((idxH D n D.length).getD (A.getD i 0) []).getD j 0) with closed := (beginF D S8 (((idxH D n D.length).getD (A.getD i 0) []).getD j 0)).closed.set (((idxH D n D.length).getD (A.getD i 0) []).getD j 0) (dead D S8 (((idxH D n D.length).getD (A.getD i 0) []).getD j 0)), opn := (beginF D S8 (((idxH D n D.length).getD (A.getD i 0) []).getD j 0)).opn.set (A.getD i 0) (S8.opn.getD (A.getD i 0) 0 + 1) } = bgF D (A.getD i 0) S8 (((idxH D n D.length).getD (A.getD i 0) []).getD j 0) := by rw [bgF, if_neg (by rw [hdd]; exact Bool.false_ne_true), eop]
          refine TL_nil ?_
          -- R16
          refine W_reg (l := [⟨some 97, Op.binOp BinOp.add 3 (Operand.tmp 66) (Operand.const (Value.int IntKind.i64 1)) 3, 3, none⟩, ⟨some 66, Op.move (Operand.tmp 97), 3, none⟩]) (by kernel_rfl) (by kernel_rfl) ?_
          refine TL_q rfl (QV_add (r := ((j + 1 : Nat) : Int)) rfl rfl (by omega) (by omega) (by omega)) ?_
          refine TL_q rfl (QV_move rfl) ?_
          refine TL_nil ?_
          first
            | exact ⟨j + 1, ⟨by omega, by rw [hfj, ← ebg2]; show 0 ≤ ((beginF D S8 (((idxH D n D.length).getD (A.getD i 0) []).getD j 0)).opn.set (A.getD i 0) (S8.opn.getD (A.getD i 0) 0 + 1)).getD (A.getD i 0) 0 ∧ ((beginF D S8 (((idxH D n D.length).getD (A.getD i 0) []).getD j 0)).opn.set (A.getD i 0) (S8.opn.getD (A.getD i 0) 0 + 1)).getD (A.getD i 0) 0 ≤ _; rw [getD_set_eq _ _ _ _ (by rw [h9.m.c.nopn]; exact ha)]; omega, h11.castS (by rw [hfj]; exact ebg2)⟩, ⟨rfl, rfl, rfl, rfl, rfl, rfl, rfl, rfl, rfl, rfl, trivial⟩, by omega⟩
            | exact ⟨j + 1, ⟨by omega, by rw [hfj, ← ebg]; show 0 ≤ (beginF D S8 (((idxH D n D.length).getD (A.getD i 0) []).getD j 0)).opn.getD (A.getD i 0) 0 ∧ (beginF D S8 (((idxH D n D.length).getD (A.getD i 0) []).getD j 0)).opn.getD (A.getD i 0) 0 ≤ _; rw [eop]; omega, h10.castS (by rw [hfj]; exact ebg)⟩, ⟨rfl, rfl, rfl, rfl, rfl, rfl, rfl, rfl, rfl, rfl, trivial⟩, by omega⟩
        ·
          have hdd : dead D S8 (((idxH D n D.length).getD (A.getD i 0) []).getD j 0) = true := by simpa using hc87
          have ebg : { beginF D S8 (((idxH D n D.length).getD (A.getD i 0) []).getD j 0) with closed := (beginF D S8 (((idxH D n D.length).getD (A.getD i 0) []).getD j 0)).closed.set (((idxH D n D.length).getD (A.getD i 0) []).getD j 0) (dead D S8 (((idxH D n D.length).getD (A.getD i 0) []).getD j 0)) } = bgF D (A.getD i 0) S8 (((idxH D n D.length).getD (A.getD i 0) []).getD j 0) := by rw [bgF, if_pos hdd]
          refine W_skip (by kernel_rfl) ?_
          -- R16
          refine W_reg (l := [⟨some 97, Op.binOp BinOp.add 3 (Operand.tmp 66) (Operand.const (Value.int IntKind.i64 1)) 3, 3, none⟩, ⟨some 66, Op.move (Operand.tmp 97), 3, none⟩]) (by kernel_rfl) (by kernel_rfl) ?_
          refine TL_q rfl (QV_add (r := ((j + 1 : Nat) : Int)) rfl rfl (by omega) (by omega) (by omega)) ?_
          refine TL_q rfl (QV_move rfl) ?_
          refine TL_nil ?_
          first
            | exact ⟨j + 1, ⟨by omega, by rw [hfj, ← ebg2]; show 0 ≤ ((beginF D S8 (((idxH D n D.length).getD (A.getD i 0) []).getD j 0)).opn.set (A.getD i 0) (S8.opn.getD (A.getD i 0) 0 + 1)).getD (A.getD i 0) 0 ∧ ((beginF D S8 (((idxH D n D.length).getD (A.getD i 0) []).getD j 0)).opn.set (A.getD i 0) (S8.opn.getD (A.getD i 0) 0 + 1)).getD (A.getD i 0) 0 ≤ _; rw [getD_set_eq _ _ _ _ (by rw [h9.m.c.nopn]; exact ha)]; omega, h11.castS (by rw [hfj]; exact ebg2)⟩, ⟨rfl, rfl, rfl, rfl, rfl, rfl, rfl, rfl, rfl, rfl, trivial⟩, by omega⟩
            | exact ⟨j + 1, ⟨by omega, by rw [hfj, ← ebg]; show 0 ≤ (beginF D S8 (((idxH D n D.length).getD (A.getD i 0) []).getD j 0)).opn.getD (A.getD i 0) 0 ∧ (beginF D S8 (((idxH D n D.length).getD (A.getD i 0) []).getD j 0)).opn.getD (A.getD i 0) 0 ≤ _; rw [eop]; omega, h10.castS (by rw [hfj]; exact ebg)⟩, ⟨rfl, rfl, rfl, rfl, rfl, rfl, rfl, rfl, rfl, rfl, trivial⟩, by omega⟩
      ·
        have hje : j = ((idxH D n D.length).getD (A.getD i 0) []).length := by have := of_decide_eq_false hc67; omega
        subst hje
        rw [List.take_length] at h8
        refine W_exit 4 (by kernel_rfl) ?_
        show T Try.prog 149 (C Try.f39 [1, 1, 1, 0, 0, 1, 0, 1, 1]) _ _ _
        -- R17
        refine W_reg (l := [⟨some 98, Op.binOp BinOp.add 3 (Operand.tmp 48) (Operand.const (Value.int IntKind.i64 1)) 3, 3, none⟩, ⟨some 48, Op.move (Operand.tmp 98), 3, none⟩]) (by kernel_rfl) (by kernel_rfl) ?_
        refine TL_q rfl (QV_add (r := ((i + 1 : Nat) : Int)) rfl rfl (by omega) (by omega) (by omega)) ?_
        refine TL_q rfl (QV_move rfl) ?_
        refine TL_nil ?_
        exact ⟨i + 1, ⟨by omega, h8.castS hfs.symm⟩, ⟨rfl, rfl, rfl, rfl, rfl, rfl, trivial⟩, by omega⟩
    ·
      have hie : i = A.length := by have := of_decide_eq_false hc49; omega
      subst hie
      rw [List.take_length] at h6
      obtain ⟨S6, hS6⟩ : ∃ s, s = st2 D n A S5 := ⟨_, rfl⟩
      rw [← hS6] at h6
      have hmq6 : muq S6 = muq S := by rw [hS6, hS5, muq_st2]; exact muq_st1 part A S
      refine W_exit 2 (by kernel_rfl) ?_
      show T Try.prog 149 (C Try.f39 [1, 1, 1]) _ _ _
      refine W_seq (by kernel_rfl) ?_
      refine W_seq (by kernel_rfl) ?_
      -- R18
      refine W_reg (l := [⟨some 99, Op.move (Operand.tmp 2), 27, none⟩, ⟨some 100, Op.call { callee := Callee.builtin Builtin.len, args := #[Operand.tmp 99], argTypes := #[27] }, 3, none⟩, ⟨some 101, Op.move (Operand.const (Value.int IntKind.i64 0)), 3, none⟩]) (by kernel_rfl) (by kernel_rfl) ?_
      refine TL_q rfl (QV_move rfl) ?_
      refine TL_q rfl (QV_len rfl el27) ?_
      refine TL_q rfl (QV_move rfl) ?_
      refine TL_nil ?_
      refine W_block 6 (by kernel_rfl) ?_
      refine W_loop (ι := Nat × Value) (fun i w7 => i.1 ≤ A.length ∧ muq (st3 D n (A.take i.1) S6) = muq S ∧ SMF w w7 L n D (st3 D n (A.take i.1) S6) Prot lv5 i.2) (fun i => [(0, .pointer (some ⟨L.s + 9, 0, none⟩)), (1, .int .i64 (part : Int)), (2, .slice (some ⟨ab, ao, none⟩) A.length ac), (99, .slice (some ⟨ab, ao, none⟩) A.length ac), (100, .int .i64 (A.length : Nat)), (101, .int .i64 (i.1 : Int))]) (fun i => A.length - i.1) (0, qv) (by kernel_rfl) ?_ ?_ ?_
      · exact ⟨Nat.zero_le _, hmq6, h6⟩
      · exact ⟨rfl, rfl, rfl, rfl, rfl, rfl, trivial⟩
      rintro ⟨i, qv7⟩ w7 ⟨hi, hmq7, h7⟩
      dsimp only at hi hmq7 h7 ⊢
      refine W_seq (by kernel_rfl) ?_
      -- R19
      refine W_reg (l := [⟨some 102, Op.binOp BinOp.lss 3 (Operand.tmp 101) (Operand.tmp 100) 3, 0, none⟩]) (by kernel_rfl) (by kernel_rfl) ?_
      refine TL_q rfl (QV_lss rfl rfl) ?_
      refine TL_nil ?_
      refine W_seq (by kernel_rfl) ?_
      refine W_cond (c := Operand.tmp 102) (by kernel_rfl) rfl (fun hc102 => ?_) (fun hc102 => ?_)
      ·
        have hlt : i < A.length := by have := of_decide_eq_true hc102; omega
        have ha := hA _ (getD_mem 0 hlt)
        have hfs := st3_succ D n A i hlt S6
        obtain ⟨S7, hS7⟩ : ∃ s, s = st3 D n (A.take i) S6 := ⟨_, rfl⟩
        rw [← hS7] at h7 hfs hmq7
        obtain ⟨va, hva, hints⟩ := htab _ ha
        obtain ⟨qa, qc, rfl, hqc, hrow⟩ := hints.nat
        have hsh := idxH_short D n D.length (A.getD i 0)
        have ec1 := h7.m.c.c1
        rw [htbv] at ec1
        refine W_skip (by kernel_rfl) ?_
        refine W_seq (by kernel_rfl) ?_
        refine W_block 7 (by kernel_rfl) ?_
        refine W_seq (by kernel_rfl) ?_
        -- R20
        refine W_reg (l := [⟨some 103, Op.indexAddr 27 (Operand.tmp 99) (Operand.tmp 101), 0, none⟩, ⟨some 104, Op.load 3 (Operand.tmp 103), 3, none⟩, ⟨some 13, Op.assign (Operand.tmp 104), 3, none⟩]) (by kernel_rfl) (by kernel_rfl) ?_
        refine TL_q rfl (QV_idxO rfl rfl el27 sz3 (hlt)) ?_
        refine TL_q rfl (QV_load rfl one3 (cel_fr (hcel i hlt) h7.f hpf)) ?_
        refine TL_q rfl (QV_assign rfl) ?_
        refine TL_nil ?_
        refine W_seq (by kernel_rfl) ?_
        -- R21
        refine W_reg (l := [⟨some 105, Op.move (Operand.tmp 0), 25, none⟩, ⟨some 106, Op.nilCheck (Operand.tmp 105), 0, none⟩, ⟨some 107, Op.fieldAddr 61 (Operand.tmp 106) 1, 0, none⟩, ⟨some 108, Op.load 34 (Operand.tmp 107), 34, none⟩, ⟨some 109, Op.move (Operand.tmp 13), 3, none⟩, ⟨some 110, Op.indexAddr 34 (Operand.tmp 108) (Operand.tmp 109), 0, none⟩, ⟨some 111, Op.load 27 (Operand.tmp 110), 27, none⟩, ⟨some 112, Op.call { callee := Callee.builtin Builtin.len, args := #[Operand.tmp 111], argTypes := #[27] }, 3, none⟩, ⟨some 113, Op.move (Operand.const (Value.int IntKind.i64 0)), 3, none⟩]) (by kernel_rfl) (by kernel_rfl) ?_
        refine TL_q rfl (QV_move rfl) ?_
        refine TL_q rfl (QV_nil rfl) ?_
        refine TL_q rfl (QV_field rfl fld61_1) ?_
        refine TL_q rfl (QV_load rfl one34 (ec1)) ?_
        refine TL_q rfl (QV_move rfl) ?_
        refine TL_q rfl (QV_idx1 rfl rfl el34 sz27 (ha)) ?_
        refine TL_q rfl (QV_load rfl one27 (cel_fr hva h7.f (notFX (by omega)))) ?_
        refine TL_q rfl (QV_len rfl el27) ?_
        refine TL_q rfl (QV_move rfl) ?_
        refine TL_nil ?_
        refine W_block 8 (by kernel_rfl) ?_
        refine W_loop (ι := Nat × Value) (fun j w8 => j.1 ≤ ((idxH D n D.length).getD (A.getD i 0) []).length ∧ muq ((((idxH D n D.length).getD (A.getD i 0) []).take j.1).foldl (pvF (A.getD i 0)) S7) = muq S ∧ SMF w w8 L n D ((((idxH D n D.length).getD (A.getD i 0) []).take j.1).foldl (pvF (A.getD i 0)) S7) Prot lv5 j.2) (fun j => [(0, .pointer (some ⟨L.s + 9, 0, none⟩)), (1, .int .i64 (part : Int)), (2, .slice (some ⟨ab, ao, none⟩) A.length ac), (99, .slice (some ⟨ab, ao, none⟩) A.length ac), (100, .int .i64 (A.length : Nat)), (101, .int .i64 (i : Int)), (13, .int .i64 (((A.getD i 0) : Nat) : Int)), (111, .slice qa ((idxH D n D.length).getD (A.getD i 0) []).length qc), (112, .int .i64 (((idxH D n D.length).getD (A.getD i 0) []).length : Nat)), (113, .int .i64 (j.1 : Int))]) (fun j => ((idxH D n D.length).getD (A.getD i 0) []).length - j.1) (0, qv7) (by kernel_rfl) ?_ ?_ ?_
        · exact ⟨Nat.zero_le _, hmq7, h7⟩
        · exact ⟨rfl, rfl, rfl, rfl, rfl, rfl, rfl, rfl, rfl, rfl, trivial⟩
        rintro ⟨j, qv8⟩ w8 ⟨hj, hmq8, h8⟩
        dsimp only at hj hmq8 h8 ⊢
        refine W_seq (by kernel_rfl) ?_
        -- R22
        refine W_reg (l := [⟨some 114, Op.binOp BinOp.lss 3 (Operand.tmp 113) (Operand.tmp 112) 3, 0, none⟩]) (by kernel_rfl) (by kernel_rfl) ?_
        refine TL_q rfl (QV_lss rfl rfl) ?_
        refine TL_nil ?_
        refine W_seq (by kernel_rfl) ?_
        refine W_cond (c := Operand.tmp 114) (by kernel_rfl) rfl (fun hc114 => ?_) (fun hc114 => ?_)
        ·
          have hjl : j < ((idxH D n D.length).getD (A.getD i 0) []).length := by have := of_decide_eq_true hc114; omega
          obtain ⟨b1, o1, rfl, hb1, hc1⟩ := hrow (by omega)
          obtain ⟨hrl, hrh⟩ := (mem_idxH D n D.length (Nat.le_refl _) hok _ _).1 (getD_mem 0 hjl)
          have hfj := foldl_take_succ ((idxH D n D.length).getD (A.getD i 0) []) j 0 hjl (pvF (A.getD i 0)) S7
          obtain ⟨S8, hS8⟩ : ∃ s, s = (((idxH D n D.length).getD (A.getD i 0) []).take j).foldl (pvF (A.getD i 0)) S7 := ⟨_, rfl⟩
          rw [← hS8] at hmq8 h8 hfj
          have hmqp := muq_pv (A.getD i 0) S8 (((idxH D n D.length).getD (A.getD i 0) []).getD j 0)
          have hq8 : S8.queue.length ≤ 1000000000000 := by unfold muq at hmq8; unfold muq at hmq; omega
          refine W_skip (by kernel_rfl) ?_
          refine W_seq (by kernel_rfl) ?_
          refine W_block 9 (by kernel_rfl) ?_
          refine W_seq (by kernel_rfl) ?_
          -- R23
          refine W_reg (l := [⟨some 115, Op.indexAddr 27 (Operand.tmp 111) (Operand.tmp 113), 0, none⟩, ⟨some 116, Op.load 3 (Operand.tmp 115), 3, none⟩, ⟨some 15, Op.assign (Operand.tmp 116), 3, none⟩]) (by kernel_rfl) (by kernel_rfl) ?_
          refine TL_q rfl (QV_idxO rfl rfl el27 sz3 (hjl)) ?_
          refine TL_q rfl (QV_load rfl one3 (cel_fr (hc1 j hjl) h8.f (notFX (by omega)))) ?_
          refine TL_q rfl (QV_assign rfl) ?_
          refine TL_nil ?_
          refine W_seq (by kernel_rfl) ?_
          -- R24
          refine W_reg (l := [⟨some 117, Op.move (Operand.tmp 0), 25, none⟩, ⟨some 118, Op.nilCheck (Operand.tmp 117), 0, none⟩, ⟨some 119, Op.fieldAddr 61 (Operand.tmp 118) 11, 0, none⟩, ⟨some 120, Op.load 37 (Operand.tmp 119), 37, none⟩, ⟨some 121, Op.move (Operand.tmp 15), 3, none⟩, ⟨some 122, Op.indexAddr 37 (Operand.tmp 120) (Operand.tmp 121), 0, none⟩, ⟨some 123, Op.load 4 (Operand.tmp 122), 4, none⟩, ⟨some 124, Op.unOp UnOp.not 4 (Operand.tmp 123), 4, none⟩, ⟨some 125, Op.move (Operand.tmp 124), 4, none⟩, ⟨some 126, Op.move (Operand.tmp 0), 25, some (8, true)⟩, ⟨some 127, Op.nilCheck (Operand.tmp 126), 0, some (8, true)⟩, ⟨some 128, Op.fieldAddr 61 (Operand.tmp 127) 10, 0, some (8, true)⟩, ⟨some 129, Op.load 27 (Operand.tmp 128), 27, some (8, true)⟩, ⟨some 130, Op.move (Operand.tmp 15), 3, some (8, true)⟩, ⟨some 131, Op.indexAddr 27 (Operand.tmp 129) (Operand.tmp 130), 0, some (8, true)⟩, ⟨some 132, Op.load 3 (Operand.tmp 131), 3, some (8, true)⟩, ⟨some 133, Op.binOp BinOp.eql 3 (Operand.tmp 132) (Operand.const (Value.int IntKind.i64 0)) 3, 4, some (8, true)⟩, ⟨some 134, Op.pick (Operand.tmp 125) (Operand.tmp 133) (Operand.const (Value.bool false)), 4, none⟩]) (by kernel_rfl) (by kernel_rfl) ?_
          refine TL_q rfl (QV_move rfl) ?_
          refine TL_q rfl (QV_nil rfl) ?_
          refine TL_q rfl (QV_field rfl fld61_11) ?_
          refine TL_q rfl (QV_load rfl one37 (h8.m.c.c11)) ?_
          refine TL_q rfl (QV_move rfl) ?_
          refine TL_q rfl (QV_idx1 rfl rfl el37 sz4 (hrl)) ?_
          refine TL_q rfl (QV_load rfl one4 (h8.m.c.bclosed.cB (by rw [h8.m.c.nclosed]; exact hrl))) ?_
          refine TL_q rfl (QV_not rfl) ?_
          refine TL_q rfl (QV_move rfl) ?_
          refine TL_cases (t := 125) rfl (fun hb125 => ?_) (fun hb125 => ?_)
          ·
            have k1 : S8.closed.getD (((idxH D n D.length).getD (A.getD i 0) []).getD j 0) false = false := by simpa using hb125
            refine TL_gq rfl rfl rfl rfl (QV_move rfl) ?_
            refine TL_gq rfl rfl rfl rfl (QV_nil rfl) ?_
            refine TL_gq rfl rfl rfl rfl (QV_field rfl fld61_10) ?_
            refine TL_gq rfl rfl rfl rfl (QV_load rfl one27 (h8.m.c.c10)) ?_
            refine TL_gq rfl rfl rfl rfl (QV_move rfl) ?_
            refine TL_gq rfl rfl rfl rfl (QV_idx1 rfl rfl el27 sz3 (hrl)) ?_
            refine TL_gq rfl rfl rfl rfl (QV_load rfl one3 (h8.m.c.bwait.cI (by rw [h8.m.c.nwait]; exact hrl))) ?_
            refine TL_gq rfl rfl rfl rfl (QV_eql rfl rfl) ?_
            refine TL_q rfl (QV_pickT rfl rfl) ?_
            refine TL_nil ?_
            refine W_cond (c := Operand.tmp 134) (by kernel_rfl) rfl (fun hc134 => ?_) (fun hc134 => ?_)
            ·
              have e9 : decideF S8 (A.getD i 0) 2 = pvF (A.getD i 0) S8 (((idxH D n D.length).getD (A.getD i 0) []).getD j 0) := by rw [pvF, if_pos ⟨k1, of_decide_eq_true hc134⟩]
              -- R25
              refine W_reg (l := [⟨some 135, Op.move (Operand.tmp 0), 25, none⟩, ⟨some 136, Op.move (Operand.tmp 13), 3, none⟩, ⟨some 137, Op.call { callee := Callee.value (Operand.func 43), args := #[Operand.tmp 135, Operand.tmp 136, Operand.const (Value.int IntKind.i8 2)], argTypes := #[25, 3, 45] }, 0, none⟩]) (by kernel_rfl) (by kernel_rfl) ?_
              refine TL_q rfl (QV_move rfl) ?_
              refine TL_q rfl (QV_move rfl) ?_
              refine TL_e (EV_callD rfl rfl rfl call43 (decideWalk w8 L n D S8 Prot lv5 qv8 h8.self _ ha 2 hq8) fun r9 w9 hr9 => ?_)
              obtain ⟨rfl, qv9, h9⟩ := hr9
              refine TL_nil ?_
              -- R26
              refine W_reg (l := [⟨some 138, Op.binOp BinOp.add 3 (Operand.tmp 113) (Operand.const (Value.int IntKind.i64 1)) 3, 3, none⟩, ⟨some 113, Op.move (Operand.tmp 138), 3, none⟩]) (by kernel_rfl) (by kernel_rfl) ?_
              refine TL_q rfl (QV_add (r := ((j + 1 : Nat) : Int)) rfl rfl (by omega) (by omega) (by omega)) ?_
              refine TL_q rfl (QV_move rfl) ?_
              refine TL_nil ?_
              first
                | exact ⟨(j + 1, qv9), ⟨by omega, by show muq ((((idxH D n D.length).getD (A.getD i 0) []).take (j + 1)).foldl (pvF (A.getD i 0)) S7) = muq S; rw [hfj, hmqp]; exact hmq8, (h8.after h9).castS (by rw [hfj]; exact e9)⟩, ⟨rfl, rfl, rfl, rfl, rfl, rfl, rfl, rfl, rfl, rfl, trivial⟩, by show ((idxH D n D.length).getD (A.getD i 0) []).length - (j + 1) < ((idxH D n D.length).getD (A.getD i 0) []).length - j; omega⟩
                | exact ⟨(j + 1, qv8), ⟨by omega, by show muq ((((idxH D n D.length).getD (A.getD i 0) []).take (j + 1)).foldl (pvF (A.getD i 0)) S7) = muq S; rw [hfj, hmqp]; exact hmq8, h8.castS (by rw [hfj]; exact e8)⟩, ⟨rfl, rfl, rfl, rfl, rfl, rfl, rfl, rfl, rfl, rfl, trivial⟩, by show ((idxH D n D.length).getD (A.getD i 0) []).length - (j + 1) < ((idxH D n D.length).getD (A.getD i 0) []).length - j; omega⟩
            ·
              have e8 : S8 = pvF (A.getD i 0) S8 (((idxH D n D.length).getD (A.getD i 0) []).getD j 0) := by rw [pvF, if_neg (fun e => of_decide_eq_false hc134 e.2)]
              refine W_skip (by kernel_rfl) ?_
              -- R26
              refine W_reg (l := [⟨some 138, Op.binOp BinOp.add 3 (Operand.tmp 113) (Operand.const (Value.int IntKind.i64 1)) 3, 3, none⟩, ⟨some 113, Op.move (Operand.tmp 138), 3, none⟩]) (by kernel_rfl) (by kernel_rfl) ?_
              refine TL_q rfl (QV_add (r := ((j + 1 : Nat) : Int)) rfl rfl (by omega) (by omega) (by omega)) ?_
              refine TL_q rfl (QV_move rfl) ?_
              refine TL_nil ?_
              first
                | exact ⟨(j + 1, qv9), ⟨by omega, by show muq ((((idxH D n D.length).getD (A.getD i 0) []).take (j + 1)).foldl (pvF (A.getD i 0)) S7) = muq S; rw [hfj, hmqp]; exact hmq8, (h8.after h9).castS (by rw [hfj]; exact e9)⟩, ⟨rfl, rfl, rfl, rfl, rfl, rfl, rfl, rfl, rfl, rfl, trivial⟩, by show ((idxH D n D.length).getD (A.getD i 0) []).length - (j + 1) < ((idxH D n D.length).getD (A.getD i 0) []).length - j; omega⟩
                | exact ⟨(j + 1, qv8), ⟨by omega, by show muq ((((idxH D n D.length).getD (A.getD i 0) []).take (j + 1)).foldl (pvF (A.getD i 0)) S7) = muq S; rw [hfj, hmqp]; exact hmq8, h8.castS (by rw [hfj]; exact e8)⟩, ⟨rfl, rfl, rfl, rfl, rfl, rfl, rfl, rfl, rfl, rfl, trivial⟩, by show ((idxH D n D.length).getD (A.getD i 0) []).length - (j + 1) < ((idxH D n D.length).getD (A.getD i 0) []).length - j; omega⟩
          ·
            have k1 : S8.closed.getD (((idxH D n D.length).getD (A.getD i 0) []).getD j 0) false = true := by simpa using hb125
            have e8 : S8 = pvF (A.getD i 0) S8 (((idxH D n D.length).getD (A.getD i 0) []).getD j 0) := by rw [pvF, if_neg (fun e => by rw [k1] at e; cases e.1)]
            refine TL_gs rfl rfl rfl rfl ?_
            refine TL_gs rfl rfl rfl rfl ?_
            refine TL_gs rfl rfl rfl rfl ?_
            refine TL_gs rfl rfl rfl rfl ?_
            refine TL_gs rfl rfl rfl rfl ?_
            refine TL_gs rfl rfl rfl rfl ?_
            refine TL_gs rfl rfl rfl rfl ?_
            refine TL_gs rfl rfl rfl rfl ?_
            refine TL_q rfl (QV_pickF rfl rfl) ?_
            refine TL_nil ?_
            refine W_condF (c := Operand.tmp 134) (by kernel_rfl) rfl ?_
            refine W_skip (by kernel_rfl) ?_
            -- R26
            refine W_reg (l := [⟨some 138, Op.binOp BinOp.add 3 (Operand.tmp 113) (Operand.const (Value.int IntKind.i64 1)) 3, 3, none⟩, ⟨some 113, Op.move (Operand.tmp 138), 3, none⟩]) (by kernel_rfl) (by kernel_rfl) ?_
            refine TL_q rfl (QV_add (r := ((j + 1 : Nat) : Int)) rfl rfl (by omega) (by omega) (by omega)) ?_
            refine TL_q rfl (QV_move rfl) ?_
            refine TL_nil ?_
            first
              | exact ⟨(j + 1, qv9), ⟨by omega, by show muq ((((idxH D n D.length).getD (A.getD i 0) []).take (j + 1)).foldl (pvF (A.getD i 0)) S7) = muq S; rw [hfj, hmqp]; exact hmq8, (h8.after h9).castS (by rw [hfj]; exact e9)⟩, ⟨rfl, rfl, rfl, rfl, rfl, rfl, rfl, rfl, rfl, rfl, trivial⟩, by show ((idxH D n D.length).getD (A.getD i 0) []).length - (j + 1) < ((idxH D n D.length).getD (A.getD i 0) []).length - j; omega⟩
              | exact ⟨(j + 1, qv8), ⟨by omega, by show muq ((((idxH D n D.length).getD (A.getD i 0) []).take (j + 1)).foldl (pvF (A.getD i 0)) S7) = muq S; rw [hfj, hmqp]; exact hmq8, h8.castS (by rw [hfj]; exact e8)⟩, ⟨rfl, rfl, rfl, rfl, rfl, rfl, rfl, rfl, rfl, rfl, trivial⟩, by show ((idxH D n D.length).getD (A.getD i 0) []).length - (j + 1) < ((idxH D n D.length).getD (A.getD i 0) []).length - j; omega⟩
        ·
          have hje : j = ((idxH D n D.length).getD (A.getD i 0) []).length := by have := of_decide_eq_false hc114; omega
          subst hje
          rw [List.take_length] at h8 hmq8
          refine W_exit 8 (by kernel_rfl) ?_
          show T Try.prog 149 (C Try.f39 [1, 1, 1, 0, 0, 1, 0, 1, 1, 1]) _ _ _
          -- R27
          refine W_reg (l := [⟨some 139, Op.binOp BinOp.add 3 (Operand.tmp 101) (Operand.const (Value.int IntKind.i64 1)) 3, 3, none⟩, ⟨some 101, Op.move (Operand.tmp 139), 3, none⟩]) (by kernel_rfl) (by kernel_rfl) ?_
          refine TL_q rfl (QV_add (r := ((i + 1 : Nat) : Int)) rfl rfl (by omega) (by omega) (by omega)) ?_
          refine TL_q rfl (QV_move rfl) ?_
          refine TL_nil ?_
          exact ⟨(i + 1, qv8), ⟨by omega, by show muq (st3 D n (A.take (i + 1)) S6) = muq S; rw [hfs]; exact hmq8, h8.castS hfs.symm⟩, ⟨rfl, rfl, rfl, rfl, rfl, rfl, trivial⟩, by show A.length - (i + 1) < A.length - i; omega⟩
      ·
        have hie : i = A.length := by have := of_decide_eq_false hc102; omega
        subst hie
        rw [List.take_length] at h7
        rw [hS6, hS5] at h7
        refine W_exit 6 (by kernel_rfl) ?_
        show T Try.prog 149 (C Try.f39 [1, 1, 1, 1]) _ _ _
        refine W_seq (by kernel_rfl) ?_
        -- R28
        refine W_reg (l := [⟨some 140, Op.move (Operand.tmp 0), 25, none⟩, ⟨some 141, Op.move (Operand.tmp 1), 3, none⟩, ⟨some 142, Op.call { callee := Callee.value (Operand.func 44), args := #[Operand.tmp 140, Operand.tmp 141], argTypes := #[25, 3] }, 0, none⟩]) (by kernel_rfl) (by kernel_rfl) ?_
        refine TL_q rfl (QV_move rfl) ?_
        refine TL_q rfl (QV_move rfl) ?_
        refine TL_e (EV_callD rfl rfl rfl call44 (followSolve w7 L n D _ Prot _ _ h7.self hok hl part X.PE X.hbnd X.hpop X.hmeet X.h0) fun r8 w8 hr8 => ?_)
        obtain ⟨rfl, S8, lv8, qv8, hpe8, hq8, h8⟩ := hr8
        have h8 := h7.after h8
        refine TL_nil ?_
        refine W_block 10 (by kernel_rfl) ?_
        refine W_loop (ι := FS) (fun i w9 => X.PE i.S [] ∧ i.S.queue = [] ∧ SMF w w9 L n D i.S Prot i.lv i.qv) (fun i => [(0, .pointer (some ⟨L.s + 9, 0, none⟩)), (1, .int .i64 (part : Int)), (2, .slice (some ⟨ab, ao, none⟩) A.length ac)]) (fun i => und i.S.val) ⟨S8, lv8, qv8⟩ (by kernel_rfl) ?_ ?_ ?_
        · exact ⟨hpe8, hq8, h8⟩
        · exact ⟨rfl, rfl, rfl, trivial⟩
        rintro ⟨S9, lv9, qv9⟩ w9 ⟨hpe9, hq9, h9⟩
        dsimp only at hpe9 hq9 h9 ⊢
        refine W_seq (by kernel_rfl) ?_
        refine W_seq (by kernel_rfl) ?_
        -- R29
        refine W_reg (l := [⟨some 143, Op.move (Operand.tmp 0), 25, none⟩, ⟨some 144, Op.move (Operand.tmp 1), 3, none⟩, ⟨some 145, Op.call { callee := Callee.value (Operand.func 40), args := #[Operand.tmp 143, Operand.tmp 144], argTypes := #[25, 3] }, 4, none⟩]) (by kernel_rfl) (by kernel_rfl) ?_
        refine TL_q rfl (QV_move rfl) ?_
        refine TL_q rfl (QV_move rfl) ?_
        refine TL_e (EV_callD rfl rfl rfl call40 (refuteWalk w9 L n D S9 Prot lv9 qv9 h9.self hok hl hn part _ (X.srch S9 hpe9 hq9)) fun r10 w10 hr10 => ?_)
        obtain ⟨b10, rfl, S10, lv10, qv10, hR, h10⟩ := hr10
        have h10 := h9.after h10
        refine TL_nil ?_
        refine W_cond (c := Operand.tmp 145) (by kernel_rfl) rfl (fun hc145 => ?_) (fun hc145 => ?_)
        ·
          rw [if_pos hc145] at hR
          have hR := hR
          refine W_skip (by kernel_rfl) ?_
          refine W_block 11 (by kernel_rfl) ?_
          -- R30
          refine W_reg (l := [⟨some 146, Op.move (Operand.tmp 0), 25, none⟩, ⟨some 147, Op.move (Operand.tmp 1), 3, none⟩, ⟨some 148, Op.call { callee := Callee.value (Operand.func 44), args := #[Operand.tmp 146, Operand.tmp 147], argTypes := #[25, 3] }, 0, none⟩]) (by kernel_rfl) (by kernel_rfl) ?_
          refine TL_q rfl (QV_move rfl) ?_
          refine TL_q rfl (QV_move rfl) ?_
          refine TL_e (EV_callD rfl rfl rfl call44 (followSolve w10 L n D S10 Prot lv10 qv10 h10.self hok hl part (fun S evs => X.PE S evs ∧ und S.val ≤ und S10.val) (fun S evs e => X.hbnd S evs e.1) (fun S a q e1 e2 => ⟨(X.hpop S a q e1.1 e2).1, (X.hpop S a q e1.1 e2).2, e1.2⟩) (fun S r m evs e => ⟨X.hmeet S r m evs e.1, Nat.le_trans (und_meet D part S r m) e.2⟩) ⟨hR.1, Nat.le_refl _⟩) fun r11 w11 hr11 => ?_)
          obtain ⟨rfl, S11, lv11, qv11, hpe11, hq11, h11⟩ := hr11
          have h11 := h10.after h11
          refine TL_nil ?_
          exact ⟨⟨S11, lv11, qv11⟩, ⟨hpe11.1, hq11, h11⟩, ⟨rfl, rfl, rfl, trivial⟩, Nat.lt_of_le_of_lt hpe11.2 hR.2⟩
        ·
          rw [if_neg (by rw [hc145]; exact Bool.false_ne_true)] at hR
          refine W_exit 10 (by kernel_rfl) ?_
          exact ⟨_, rfl, rfl, S10, lv10, qv10, hR, h10⟩

end Go.Proofs.Qxb6600121a
