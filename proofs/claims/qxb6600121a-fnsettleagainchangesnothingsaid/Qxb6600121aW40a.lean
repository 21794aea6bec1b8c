/-
   Walks written by program (wip/gen).
-/
import Derived.Test.Qxb6600121aW42
namespace Go.Proofs.Qxb6600121a
open Go Go.Proofs
set_option linter.unusedVariables false
set_option linter.unusedSimpArgs false

def los1 (D : List Rl) (part : Nat) (S : SS) (r : Nat) : SS := if S.part.getD (D.getD r rl0).head 0 = (part : Int) then loseIf S (D.getD r rl0).head r else S
/-- How many have a source. -/
def cS : List Int → Nat
  | [] => 0
  | v :: vs => (if 0 ≤ v then 1 else 0) + cS vs
theorem cS_le (vs : List Int) : cS vs ≤ vs.length := by
  induction vs with
  | nil => exact Nat.le_refl _
  | cons v vs ih => rw [cS, List.length_cons]; split <;> omega
theorem cS_neg (vs : List Int) (a : Nat) (ha : a < vs.length) (h : 0 ≤ vs.getD a 0) : cS (vs.set a (-1)) + 1 = cS vs := by
  induction vs generalizing a with
  | nil => cases ha
  | cons v vs ih =>
    cases a with
    | zero =>
      have h : 0 ≤ v := h
      rw [List.set_cons_zero, cS, cS, if_neg (by decide), if_pos h]
      omega
    | succ a =>
      rw [List.set_cons_succ, cS, cS]
      have := ih a (by simpa using ha) (by simpa using h)
      omega
theorem cS_pos (vs : List Int) (a : Nat) (x : Int) (ha : a < vs.length) (h : vs.getD a 0 < 0) (hx : 0 ≤ x) : cS (vs.set a x) = cS vs + 1 := by
  induction vs generalizing a with
  | nil => cases ha
  | cons v vs ih =>
    cases a with
    | zero =>
      have h : v < 0 := h
      rw [List.set_cons_zero, cS, cS, if_pos hx, if_neg (by omega)]
      omega
    | succ a =>
      rw [List.set_cons_succ, cS, cS]
      have := ih a (by simpa using ha) (by simpa using h)
      omega
theorem cS_los1 (D : List Rl) (part : Nat) (S : SS) (r : Nat) (hh : (D.getD r rl0).head < S.source.length) : cS (los1 D part S r).source + (los1 D part S r).lost.length = cS S.source + S.lost.length := by
  unfold los1
  split
  · unfold loseIf
    split
    · rename_i h
      have := cS_neg S.source _ hh (by rw [h]; omega)
      show cS (S.source.set _ (-1)) + (S.lost ++ [_]).length = _
      rw [List.length_append, List.length_singleton]
      omega
    · rfl
  · rfl
theorem Row.cells {h : Array Obj} {c : Nat} {a : Option Addr} {xs : List Nat} (hr : Row h 3 1 (.slice a xs.length c) xs.length (nats xs)) {i : Nat} (hi : i < xs.length) :
    ∃ g, a = some ⟨g, 0, none⟩ ∧ ∀ i, i < xs.length → cel h g i = some (.int .i64 ((xs.getD i 0 : Nat) : Int)) := by
  obtain ⟨g, cap, cs, h1, h2, h3, h4, h5, h6⟩ := hr.blk (by omega)
  injection h1 with e1 e2 e3
  refine ⟨g, e1, fun i hi => ?_⟩
  rw [h4.cel]
  have h7 : (nats xs)[i]? = some (.int .i64 ((xs.getD i 0 : Nat) : Int)) := nats_get hi
  rw [← h6, List.getElem?_take, if_pos (by omega)] at h7
  exact h7
set_option maxRecDepth 10000 in
set_option maxHeartbeats 1000000 in
theorem phase1 (w : World) (L : Lay) (n : Nat) (D : List Rl) (S : SS) (Prot : Nat → Prop) (lv qv : Value) (h : SMF w w L n D S Prot lv qv) (hok : Okay n D) (hl : D.length + tot (D.map Rl.rd) ≤ 1048576) (hn : n ≤ 65536) (part : Nat) (QA : SS → Nat → List Nat → Prop)
    (hAn : ∀ S i rs, QA S i rs → (∀ x ∈ S.lost, x < n) ∧ S.lost.length ≤ 1000000000000)
    (hA1 : ∀ S i, QA S i [] → i < S.lost.length → S.val.getD (S.lost.getD i 0) 0 ≠ 1 → QA S (i + 1) [])
    (hA2 : ∀ S i, QA S i [] → i < S.lost.length → S.val.getD (S.lost.getD i 0) 0 = 1 → QA S (i + 1) ((idxU D n D.length).getD (S.lost.getD i 0) []))
    (hA3 : ∀ S i r rs, QA S i (r :: rs) → QA (los1 D part S r) i rs) (h0 : QA S 0 []) (k : Ks)
    (hk : ∀ E' w' S' lv' qv' i, SubE [(0, .pointer (some ⟨L.s + 9, 0, none⟩)), (1, .int .i64 (part : Int))] E' → QA S' i [] → ¬ i < S'.lost.length → SMF w w' L n D S' Prot lv' qv' → k.nrm E' w') :
    T Try.prog 404 (C Try.f40 [1, 0, 1]) [(5, .int .i64 0), (0, .pointer (some ⟨L.s + 9, 0, none⟩)), (1, .int .i64 (part : Int))] w k := by
  obtain ⟨tb, htbv, htbB, htab⟩ := h.m.c.stat.us
  refine W_block 0 (by kernel_rfl) ?_
  refine W_loop (ι := Nat × FS) (fun i w1 => QA i.2.S i.1 [] ∧ SMF w w1 L n D i.2.S Prot i.2.lv i.2.qv) (fun i => [(0, .pointer (some ⟨L.s + 9, 0, none⟩)), (1, .int .i64 (part : Int)), (5, .int .i64 (i.1 : Int))]) (fun i => cS i.2.S.source + i.2.S.lost.length - i.1) (0, ⟨S, lv, qv⟩) (by kernel_rfl) ?_ ?_ ?_
  · exact ⟨h0, h⟩
  · exact ⟨rfl, rfl, rfl, trivial⟩
  rintro ⟨i, S1, lv1, qv1⟩ w1 ⟨hqa, h1⟩
  dsimp only at hqa h1 ⊢
  obtain ⟨la, lc, rfl, hlc⟩ := h1.m.rl.form
  obtain ⟨hn1, hn2⟩ := hAn S1 i [] hqa
  refine W_seq (by kernel_rfl) ?_
  refine W_seq (by kernel_rfl) ?_
  -- R2
  refine W_reg (l := [⟨some 25, Op.move (Operand.tmp 5), 3, none⟩, ⟨some 26, Op.move (Operand.tmp 0), 25, none⟩, ⟨some 27, Op.nilCheck (Operand.tmp 26), 0, none⟩, ⟨some 28, Op.fieldAddr 61 (Operand.tmp 27) 8, 0, none⟩, ⟨some 29, Op.load 27 (Operand.tmp 28), 27, none⟩, ⟨some 30, Op.call { callee := Callee.builtin Builtin.len, args := #[Operand.tmp 29], argTypes := #[27] }, 3, none⟩, ⟨some 31, Op.binOp BinOp.lss 3 (Operand.tmp 25) (Operand.tmp 30) 3, 4, none⟩]) (by kernel_rfl) (by kernel_rfl) ?_
  refine TL_q rfl (QV_move rfl) ?_
  refine TL_q rfl (QV_move rfl) ?_
  refine TL_q rfl (QV_nil rfl) ?_
  refine TL_q rfl (QV_field rfl fld61_8) ?_
  refine TL_q rfl (QV_load rfl one27 (h1.m.c.c8)) ?_
  refine TL_q rfl (QV_len rfl el27) ?_
  refine TL_q rfl (QV_lss rfl rfl) ?_
  refine TL_nil ?_
  refine W_cond (c := Operand.tmp 31) (by kernel_rfl) rfl (fun hc31 => ?_) (fun hc31 => ?_)
  ·
    have hi : i < S1.lost.length := by have := of_decide_eq_true hc31; omega
    obtain ⟨lg, rfl, hlcell⟩ := h1.m.rl.cells hi
    obtain ⟨a, haE⟩ : ∃ a, S1.lost.getD i 0 = a := ⟨_, rfl⟩
    have hlcell := hlcell i hi
    rw [haE] at hlcell
    have ha : a < n := hn1 a (haE ▸ getD_mem 0 hi)
    refine W_skip (by kernel_rfl) ?_
    refine W_seq (by kernel_rfl) ?_
    refine W_block 1 (by kernel_rfl) ?_
    refine W_seq (by kernel_rfl) ?_
    -- R4
    refine W_reg (l := [⟨some 34, Op.move (Operand.tmp 0), 25, none⟩, ⟨some 35, Op.nilCheck (Operand.tmp 34), 0, none⟩, ⟨some 36, Op.fieldAddr 61 (Operand.tmp 35) 8, 0, none⟩, ⟨some 37, Op.load 27 (Operand.tmp 36), 27, none⟩, ⟨some 38, Op.move (Operand.tmp 5), 3, none⟩, ⟨some 39, Op.indexAddr 27 (Operand.tmp 37) (Operand.tmp 38), 0, none⟩, ⟨some 40, Op.load 3 (Operand.tmp 39), 3, none⟩, ⟨some 6, Op.assign (Operand.tmp 40), 3, none⟩]) (by kernel_rfl) (by kernel_rfl) ?_
    refine TL_q rfl (QV_move rfl) ?_
    refine TL_q rfl (QV_nil rfl) ?_
    refine TL_q rfl (QV_field rfl fld61_8) ?_
    refine TL_q rfl (QV_load rfl one27 (h1.m.c.c8)) ?_
    refine TL_q rfl (QV_move rfl) ?_
    refine TL_q rfl (QV_idx1 rfl rfl el27 sz3 (hi)) ?_
    refine TL_q rfl (QV_load rfl one3 (hlcell)) ?_
    refine TL_q rfl (QV_assign rfl) ?_
    refine TL_nil ?_
    refine W_seq (by kernel_rfl) ?_
    refine W_seq (by kernel_rfl) ?_
    -- R5
    refine W_reg (l := [⟨some 41, Op.move (Operand.tmp 0), 25, none⟩, ⟨some 42, Op.nilCheck (Operand.tmp 41), 0, none⟩, ⟨some 43, Op.fieldAddr 61 (Operand.tmp 42) 4, 0, none⟩, ⟨some 44, Op.load 47 (Operand.tmp 43), 47, none⟩, ⟨some 45, Op.move (Operand.tmp 6), 3, none⟩, ⟨some 46, Op.indexAddr 47 (Operand.tmp 44) (Operand.tmp 45), 0, none⟩, ⟨some 47, Op.load 45 (Operand.tmp 46), 45, none⟩, ⟨some 48, Op.binOp BinOp.neq 45 (Operand.tmp 47) (Operand.const (Value.int IntKind.i8 1)) 45, 4, none⟩]) (by kernel_rfl) (by kernel_rfl) ?_
    refine TL_q rfl (QV_move rfl) ?_
    refine TL_q rfl (QV_nil rfl) ?_
    refine TL_q rfl (QV_field rfl fld61_4) ?_
    refine TL_q rfl (QV_load rfl one47 (h1.m.c.c4)) ?_
    refine TL_q rfl (QV_move rfl) ?_
    refine TL_q rfl (QV_idx1 rfl rfl el47 sz45 (ha)) ?_
    refine TL_q rfl (QV_load rfl one45 (h1.m.c.bval.c8 (by rw [h1.m.c.nval]; exact ha))) ?_
    refine TL_q rfl (QV_neq rfl rfl) ?_
    refine TL_nil ?_
    refine W_cond (c := Operand.tmp 48) (by kernel_rfl) rfl (fun hc48 => ?_) (fun hc48 => ?_)
    ·
      have hv : S1.val.getD a 0 ≠ 1 := of_decide_eq_true hc48
      have hqa2 := hA1 S1 i hqa hi (by rw [haE]; exact hv)
      refine W_exit 1 (by kernel_rfl) ?_
      show T Try.prog 404 (C Try.f40 [1, 1, 0, 0, 1, 0, 1]) _ _ _
      -- R3
      refine W_reg (l := [⟨some 32, Op.move (Operand.tmp 5), 3, none⟩, ⟨some 33, Op.binOp BinOp.add 3 (Operand.tmp 32) (Operand.const (Value.int IntKind.i64 1)) 3, 3, none⟩, ⟨some 5, Op.assign (Operand.tmp 33), 3, none⟩]) (by kernel_rfl) (by kernel_rfl) ?_
      refine TL_q rfl (QV_move rfl) ?_
      refine TL_q rfl (QV_add (r := ((i + 1 : Nat) : Int)) rfl rfl (by omega) (by omega) (by omega)) ?_
      refine TL_q rfl (QV_assign rfl) ?_
      refine TL_nil ?_
      first
        | exact ⟨(i + 1, ⟨S2, lv2, qv2⟩), ⟨hqb, h2⟩, ⟨rfl, rfl, rfl, trivial⟩, by show cS S2.source + S2.lost.length - (i + 1) < cS S1.source + S1.lost.length - i; omega⟩
        | exact ⟨(i + 1, ⟨S1, _, qv1⟩), ⟨hqa2, h1⟩, ⟨rfl, rfl, rfl, trivial⟩, by show cS S1.source + S1.lost.length - (i + 1) < cS S1.source + S1.lost.length - i; omega⟩
    ·
      have hv : S1.val.getD a 0 = 1 := Decidable.byContradiction (of_decide_eq_false hc48)
      have hqa2 := hA2 S1 i hqa hi (by rw [haE]; exact hv)
      rw [haE] at hqa2
      obtain ⟨va, hva, hints⟩ := htab a ha
      obtain ⟨qa, qc, rfl, hqc, hrow⟩ := hints.nat
      have hsh := idxU_short D n D.length (Nat.le_refl _) a
      rw [show (D.map Rl.rd).take D.length = D.map Rl.rd by rw [List.take_of_length_le (by simp)]] at hsh
      have ec2 := h1.m.c.c2
      rw [htbv] at ec2
      obtain ⟨lv1, hlv1⟩ : ∃ v, v = Value.slice (some ⟨lg, 0, none⟩) S1.lost.length lc := ⟨_, rfl⟩
      rw [← hlv1] at h1
      have hqa2 : QA S1 (i + 1) (((idxU D n D.length).getD a []).drop 0) := hqa2
      refine W_skip (by kernel_rfl) ?_
      refine W_seq (by kernel_rfl) ?_
      -- R6
      refine W_reg (l := [⟨some 49, Op.move (Operand.tmp 0), 25, none⟩, ⟨some 50, Op.nilCheck (Operand.tmp 49), 0, none⟩, ⟨some 51, Op.fieldAddr 61 (Operand.tmp 50) 2, 0, none⟩, ⟨some 52, Op.load 34 (Operand.tmp 51), 34, none⟩, ⟨some 53, Op.move (Operand.tmp 6), 3, none⟩, ⟨some 54, Op.indexAddr 34 (Operand.tmp 52) (Operand.tmp 53), 0, none⟩, ⟨some 55, Op.load 27 (Operand.tmp 54), 27, none⟩, ⟨some 56, Op.call { callee := Callee.builtin Builtin.len, args := #[Operand.tmp 55], argTypes := #[27] }, 3, none⟩, ⟨some 57, Op.move (Operand.const (Value.int IntKind.i64 0)), 3, none⟩]) (by kernel_rfl) (by kernel_rfl) ?_
      refine TL_q rfl (QV_move rfl) ?_
      refine TL_q rfl (QV_nil rfl) ?_
      refine TL_q rfl (QV_field rfl fld61_2) ?_
      refine TL_q rfl (QV_load rfl one34 (ec2)) ?_
      refine TL_q rfl (QV_move rfl) ?_
      refine TL_q rfl (QV_idx1 rfl rfl el34 sz27 (ha)) ?_
      refine TL_q rfl (QV_load rfl one27 (cel_fr hva h1.f (notFX (by omega)))) ?_
      refine TL_q rfl (QV_len rfl el27) ?_
      refine TL_q rfl (QV_move rfl) ?_
      refine TL_nil ?_
      refine W_block 2 (by kernel_rfl) ?_
      refine W_loop (ι := Nat × FS) (fun j w2 => j.1 ≤ ((idxU D n D.length).getD a []).length ∧ QA j.2.S (i + 1) (((idxU D n D.length).getD a []).drop j.1) ∧ SMF w w2 L n D j.2.S Prot j.2.lv j.2.qv ∧ cS j.2.S.source + j.2.S.lost.length = cS S1.source + S1.lost.length) (fun j => [(0, .pointer (some ⟨L.s + 9, 0, none⟩)), (1, .int .i64 (part : Int)), (5, .int .i64 (i : Int)), (55, .slice qa ((idxU D n D.length).getD a []).length qc), (56, .int .i64 (((idxU D n D.length).getD a []).length : Nat)), (57, .int .i64 (j.1 : Int))]) (fun j => ((idxU D n D.length).getD a []).length - j.1) (0, ⟨S1, lv1, qv1⟩) (by kernel_rfl) ?_ ?_ ?_
      · exact ⟨Nat.zero_le _, hqa2, h1, rfl⟩
      · exact ⟨rfl, rfl, rfl, rfl, rfl, rfl, trivial⟩
      rintro ⟨j, S2, lv2, qv2⟩ w2 ⟨hj, hqb, h2, hms⟩
      dsimp only at hj hqb h2 hms ⊢
      refine W_seq (by kernel_rfl) ?_
      -- R7
      refine W_reg (l := [⟨some 58, Op.binOp BinOp.lss 3 (Operand.tmp 57) (Operand.tmp 56) 3, 0, none⟩]) (by kernel_rfl) (by kernel_rfl) ?_
      refine TL_q rfl (QV_lss rfl rfl) ?_
      refine TL_nil ?_
      refine W_seq (by kernel_rfl) ?_
      refine W_cond (c := Operand.tmp 58) (by kernel_rfl) rfl (fun hc58 => ?_) (fun hc58 => ?_)
      ·
        have hlt : j < ((idxU D n D.length).getD a []).length := by have := of_decide_eq_true hc58; omega
        obtain ⟨b1, o1, rfl, hb1, hc1⟩ := hrow (by omega)
        obtain ⟨hrl, hrm⟩ := (mem_idxU D n D.length (Nat.le_refl _) hok a _).1 (getD_mem 0 hlt)
        have hhn := (hok _ (getD_mem rl0 hrl)).1
        rw [drop_getD _ j 0 hlt] at hqb
        obtain ⟨hm1, hm2⟩ := hAn _ _ _ hqb
        have hqc2 := hA3 _ _ _ _ hqb
        refine W_skip (by kernel_rfl) ?_
        refine W_seq (by kernel_rfl) ?_
        refine W_block 3 (by kernel_rfl) ?_
        refine W_seq (by kernel_rfl) ?_
        -- R8
        refine W_reg (l := [⟨some 59, Op.indexAddr 27 (Operand.tmp 55) (Operand.tmp 57), 0, none⟩, ⟨some 60, Op.load 3 (Operand.tmp 59), 3, none⟩, ⟨some 8, Op.assign (Operand.tmp 60), 3, none⟩]) (by kernel_rfl) (by kernel_rfl) ?_
        refine TL_q rfl (QV_idxO rfl rfl el27 sz3 (hlt)) ?_
        refine TL_q rfl (QV_load rfl one3 (cel_fr (hc1 j hlt) h2.f (notFX (by omega)))) ?_
        refine TL_q rfl (QV_assign rfl) ?_
        refine TL_nil ?_
        refine W_seq (by kernel_rfl) ?_
        -- R9
        refine W_reg (l := [⟨some 61, Op.move (Operand.tmp 0), 25, none⟩, ⟨some 62, Op.nilCheck (Operand.tmp 61), 0, none⟩, ⟨some 63, Op.fieldAddr 61 (Operand.tmp 62) 0, 0, none⟩, ⟨some 64, Op.load 59 (Operand.tmp 63), 59, none⟩, ⟨some 65, Op.nilCheck (Operand.tmp 64), 0, none⟩, ⟨some 66, Op.fieldAddr 65 (Operand.tmp 65) 1, 0, none⟩, ⟨some 67, Op.load 53 (Operand.tmp 66), 53, none⟩, ⟨some 68, Op.move (Operand.tmp 8), 3, none⟩, ⟨some 69, Op.indexAddr 53 (Operand.tmp 67) (Operand.tmp 68), 0, none⟩, ⟨some 70, Op.fieldAddr 54 (Operand.tmp 69) 0, 0, none⟩, ⟨some 71, Op.load 3 (Operand.tmp 70), 3, none⟩, ⟨some 9, Op.assign (Operand.tmp 71), 3, none⟩]) (by kernel_rfl) (by kernel_rfl) ?_
        refine TL_q rfl (QV_move rfl) ?_
        refine TL_q rfl (QV_nil rfl) ?_
        refine TL_q rfl (QV_field0 rfl fld61_0) ?_
        refine TL_q rfl (QV_load rfl one59 (h2.m.c.c0)) ?_
        refine TL_q rfl (QV_nil rfl) ?_
        refine TL_q rfl (QV_field rfl fld65_1) ?_
        refine TL_q rfl (QV_load rfl one53 (h2.m.c.stat.r1)) ?_
        refine TL_q rfl (QV_move rfl) ?_
        refine TL_q rfl (QV_idx rfl rfl el53 sz54 (hrl)) ?_
        refine TL_q rfl (QV_field0 rfl fld54_0) ?_
        refine TL_q rfl (QV_load rfl one3 (h2.m.c.stat.ruleH hrl)) ?_
        refine TL_q rfl (QV_assign rfl) ?_
        refine TL_nil ?_
        refine W_seq (by kernel_rfl) ?_
        -- R10
        refine W_reg (l := [⟨some 72, Op.move (Operand.tmp 0), 25, none⟩, ⟨some 73, Op.nilCheck (Operand.tmp 72), 0, none⟩, ⟨some 74, Op.fieldAddr 61 (Operand.tmp 73) 5, 0, none⟩, ⟨some 75, Op.load 27 (Operand.tmp 74), 27, none⟩, ⟨some 76, Op.move (Operand.tmp 9), 3, none⟩, ⟨some 77, Op.indexAddr 27 (Operand.tmp 75) (Operand.tmp 76), 0, none⟩, ⟨some 78, Op.load 3 (Operand.tmp 77), 3, none⟩, ⟨some 79, Op.move (Operand.tmp 1), 3, none⟩, ⟨some 80, Op.binOp BinOp.eql 3 (Operand.tmp 78) (Operand.tmp 79) 3, 4, none⟩, ⟨some 81, Op.move (Operand.tmp 80), 4, none⟩, ⟨some 82, Op.move (Operand.tmp 0), 25, some (9, true)⟩, ⟨some 83, Op.nilCheck (Operand.tmp 82), 0, some (9, true)⟩, ⟨some 84, Op.fieldAddr 61 (Operand.tmp 83) 7, 0, some (9, true)⟩, ⟨some 85, Op.load 27 (Operand.tmp 84), 27, some (9, true)⟩, ⟨some 86, Op.move (Operand.tmp 9), 3, some (9, true)⟩, ⟨some 87, Op.indexAddr 27 (Operand.tmp 85) (Operand.tmp 86), 0, some (9, true)⟩, ⟨some 88, Op.load 3 (Operand.tmp 87), 3, some (9, true)⟩, ⟨some 89, Op.move (Operand.tmp 8), 3, some (9, true)⟩, ⟨some 90, Op.binOp BinOp.eql 3 (Operand.tmp 88) (Operand.tmp 89) 3, 4, some (9, true)⟩, ⟨some 91, Op.pick (Operand.tmp 81) (Operand.tmp 90) (Operand.const (Value.bool false)), 4, none⟩]) (by kernel_rfl) (by kernel_rfl) ?_
        refine TL_q rfl (QV_move rfl) ?_
        refine TL_q rfl (QV_nil rfl) ?_
        refine TL_q rfl (QV_field rfl fld61_5) ?_
        refine TL_q rfl (QV_load rfl one27 (h2.m.c.c5)) ?_
        refine TL_q rfl (QV_move rfl) ?_
        refine TL_q rfl (QV_idx1 rfl rfl el27 sz3 (hhn)) ?_
        refine TL_q rfl (QV_load rfl one3 (h2.m.c.bpart.cI (by rw [h2.m.c.npart]; exact hhn))) ?_
        refine TL_q rfl (QV_move rfl) ?_
        refine TL_q rfl (QV_eql rfl rfl) ?_
        refine TL_q rfl (QV_move rfl) ?_
        refine TL_cases (t := 81) rfl (fun hb81 => ?_) (fun hb81 => ?_)
        ·
          have hp : S2.part.getD (D.getD (((idxU D n D.length).getD a []).getD j 0) rl0).head 0 = (part : Int) := of_decide_eq_true hb81
          refine TL_gq rfl rfl rfl rfl (QV_move rfl) ?_
          refine TL_gq rfl rfl rfl rfl (QV_nil rfl) ?_
          refine TL_gq rfl rfl rfl rfl (QV_field rfl fld61_7) ?_
          refine TL_gq rfl rfl rfl rfl (QV_load rfl one27 (h2.m.c.c7)) ?_
          refine TL_gq rfl rfl rfl rfl (QV_move rfl) ?_
          refine TL_gq rfl rfl rfl rfl (QV_idx1 rfl rfl el27 sz3 (hhn)) ?_
          refine TL_gq rfl rfl rfl rfl (QV_load rfl one3 (h2.m.c.bsource.cI (by rw [h2.m.c.nsource]; exact hhn))) ?_
          refine TL_gq rfl rfl rfl rfl (QV_move rfl) ?_
          refine TL_gq rfl rfl rfl rfl (QV_eql rfl rfl) ?_
          refine TL_q rfl (QV_pickT rfl rfl) ?_
          refine TL_nil ?_
          refine W_cond (c := Operand.tmp 91) (by kernel_rfl) rfl (fun hc91 => ?_) (fun hc91 => ?_)
          ·
            have hs : S2.source.getD (D.getD (((idxU D n D.length).getD a []).getD j 0) rl0).head 0 = (((((idxU D n D.length).getD a []).getD j 0) : Nat) : Int) := of_decide_eq_true hc91
            have e5 : loseF S2 (D.getD (((idxU D n D.length).getD a []).getD j 0) rl0).head = los1 D part S2 (((idxU D n D.length).getD a []).getD j 0) := by rw [los1, if_pos hp, loseIf, if_pos hs]
            refine W_seq (by kernel_rfl) ?_
            -- R11
            refine W_reg (l := [⟨some 92, Op.move (Operand.tmp 0), 25, none⟩, ⟨some 93, Op.nilCheck (Operand.tmp 92), 0, none⟩, ⟨some 94, Op.fieldAddr 61 (Operand.tmp 93) 7, 0, none⟩, ⟨some 95, Op.load 27 (Operand.tmp 94), 27, none⟩, ⟨some 96, Op.move (Operand.tmp 9), 3, none⟩, ⟨some 97, Op.indexAddr 27 (Operand.tmp 95) (Operand.tmp 96), 0, none⟩, ⟨none, Op.store 3 (Operand.tmp 97) (Operand.const (Value.int IntKind.i64 (-1))), 0, none⟩]) (by kernel_rfl) (by kernel_rfl) ?_
            refine TL_q rfl (QV_move rfl) ?_
            refine TL_q rfl (QV_nil rfl) ?_
            refine TL_q rfl (QV_field rfl fld61_7) ?_
            refine TL_q rfl (QV_load rfl one27 (h2.m.c.c7)) ?_
            refine TL_q rfl (QV_move rfl) ?_
            refine TL_q rfl (QV_idx1 rfl rfl el27 sz3 (hhn)) ?_
            refine TL_e (EV_store rfl rfl rfl sz3 h2.m.c.bsource (by rw [ints_len, h2.m.c.nsource]; exact hhn) fun w3 u3 => ?_)
            have h3 := h2.setSource u3
            refine TL_nil ?_
            -- R12
            refine W_reg (l := [⟨some 98, Op.move (Operand.tmp 0), 25, none⟩, ⟨some 99, Op.move (Operand.tmp 0), 25, none⟩, ⟨some 100, Op.nilCheck (Operand.tmp 99), 0, none⟩, ⟨some 101, Op.fieldAddr 61 (Operand.tmp 100) 8, 0, none⟩, ⟨some 102, Op.load 27 (Operand.tmp 101), 27, none⟩, ⟨some 103, Op.move (Operand.tmp 9), 3, none⟩, ⟨some 104, Op.buildSlice 27 1 #[(0, Operand.tmp 103)], 27, none⟩, ⟨some 105, Op.call { callee := Callee.builtin Builtin.append, args := #[Operand.tmp 102, Operand.tmp 104], argTypes := #[27, 27] }, 27, none⟩, ⟨some 106, Op.nilCheck (Operand.tmp 98), 0, none⟩, ⟨some 107, Op.fieldAddr 61 (Operand.tmp 106) 8, 0, none⟩, ⟨none, Op.store 27 (Operand.tmp 107) (Operand.tmp 105), 0, none⟩]) (by kernel_rfl) (by kernel_rfl) ?_
            refine TL_q rfl (QV_move rfl) ?_
            refine TL_q rfl (QV_move rfl) ?_
            refine TL_q rfl (QV_nil rfl) ?_
            refine TL_q rfl (QV_field rfl fld61_8) ?_
            refine TL_q rfl (QV_load rfl one27 (h3.m.c.c8)) ?_
            refine TL_q rfl (QV_move rfl) ?_
            refine TL_e (EV_lit1 rfl rfl rfl el27 in3 rfl fun w4 k4 => ?_)
            refine TL_e (EV_append rfl rfl rfl el27 in3 rfl (by decide) (h3.m.rl.fr k4.fr (fun _ _ h => h)) rfl (news1 k4.blk) (one1 rfl) (by show (S2.lost.length + 1) * 8 ≤ 140737488355328; omega) (by show S2.lost.length + 1 ≤ 140737488355328; omega) fun v5 w5 hrow5 h45 hat => ?_)
            obtain ⟨a5, c5, rfl, -⟩ := hrow5.form
            refine TL_q rfl (QV_nil rfl) ?_
            refine TL_q rfl (QV_field rfl fld61_8) ?_
            refine TL_e (EV_store rfl rfl rfl sz27 ((h3.m.c.sol.fr k4.fr (fun h => h)).fr h45 (fun e => by have := (h3.m.ol _ e).1; omega)) (by simp [solCells]) fun w6 u6 => ?_)
            have h6 := (h3.pushL k4 hrow5 h45 hat u6).castS (S' := los1 D part S2 (((idxU D n D.length).getD a []).getD j 0)) e5
            refine TL_nil ?_
            -- R13
            have hcs := cS_los1 D part S2 (((idxU D n D.length).getD a []).getD j 0) (by rw [h2.m.c.nsource]; exact hhn)
            refine W_reg (l := [⟨some 108, Op.binOp BinOp.add 3 (Operand.tmp 57) (Operand.const (Value.int IntKind.i64 1)) 3, 3, none⟩, ⟨some 57, Op.move (Operand.tmp 108), 3, none⟩]) (by kernel_rfl) (by kernel_rfl) ?_
            refine TL_q rfl (QV_add (r := ((j + 1 : Nat) : Int)) rfl rfl (by omega) (by omega) (by omega)) ?_
            refine TL_q rfl (QV_move rfl) ?_
            refine TL_nil ?_
            first
              | exact ⟨(j + 1, ⟨_, lv2, qv2⟩), ⟨by omega, hqc2, h2.castS e2, by show cS (los1 D part S2 (((idxU D n D.length).getD a []).getD j 0)).source + (los1 D part S2 (((idxU D n D.length).getD a []).getD j 0)).lost.length = _; omega⟩, ⟨rfl, rfl, rfl, rfl, rfl, rfl, trivial⟩, by show ((idxU D n D.length).getD a []).length - (j + 1) < ((idxU D n D.length).getD a []).length - j; omega⟩
              | exact ⟨(j + 1, ⟨_, _, qv2⟩), ⟨by omega, hqc2, h6, by show cS (los1 D part S2 (((idxU D n D.length).getD a []).getD j 0)).source + (los1 D part S2 (((idxU D n D.length).getD a []).getD j 0)).lost.length = _; omega⟩, ⟨rfl, rfl, rfl, rfl, rfl, rfl, trivial⟩, by show ((idxU D n D.length).getD a []).length - (j + 1) < ((idxU D n D.length).getD a []).length - j; omega⟩
          ·
            have hs : ¬ S2.source.getD (D.getD (((idxU D n D.length).getD a []).getD j 0) rl0).head 0 = (((((idxU D n D.length).getD a []).getD j 0) : Nat) : Int) := of_decide_eq_false hc91
            have e2 : S2 = los1 D part S2 (((idxU D n D.length).getD a []).getD j 0) := by rw [los1, if_pos hp, loseIf, if_neg hs]
            refine W_skip (by kernel_rfl) ?_
            -- R13
            have hcs := cS_los1 D part S2 (((idxU D n D.length).getD a []).getD j 0) (by rw [h2.m.c.nsource]; exact hhn)
            refine W_reg (l := [⟨some 108, Op.binOp BinOp.add 3 (Operand.tmp 57) (Operand.const (Value.int IntKind.i64 1)) 3, 3, none⟩, ⟨some 57, Op.move (Operand.tmp 108), 3, none⟩]) (by kernel_rfl) (by kernel_rfl) ?_
            refine TL_q rfl (QV_add (r := ((j + 1 : Nat) : Int)) rfl rfl (by omega) (by omega) (by omega)) ?_
            refine TL_q rfl (QV_move rfl) ?_
            refine TL_nil ?_
            first
              | exact ⟨(j + 1, ⟨_, lv2, qv2⟩), ⟨by omega, hqc2, h2.castS e2, by show cS (los1 D part S2 (((idxU D n D.length).getD a []).getD j 0)).source + (los1 D part S2 (((idxU D n D.length).getD a []).getD j 0)).lost.length = _; omega⟩, ⟨rfl, rfl, rfl, rfl, rfl, rfl, trivial⟩, by show ((idxU D n D.length).getD a []).length - (j + 1) < ((idxU D n D.length).getD a []).length - j; omega⟩
              | exact ⟨(j + 1, ⟨_, _, qv2⟩), ⟨by omega, hqc2, h6, by show cS (los1 D part S2 (((idxU D n D.length).getD a []).getD j 0)).source + (los1 D part S2 (((idxU D n D.length).getD a []).getD j 0)).lost.length = _; omega⟩, ⟨rfl, rfl, rfl, rfl, rfl, rfl, trivial⟩, by show ((idxU D n D.length).getD a []).length - (j + 1) < ((idxU D n D.length).getD a []).length - j; omega⟩
        ·
          have e2 : S2 = los1 D part S2 (((idxU D n D.length).getD a []).getD j 0) := by rw [los1, if_neg (of_decide_eq_false hb81)]
          refine TL_gs rfl rfl rfl rfl ?_
          refine TL_gs rfl rfl rfl rfl ?_
          refine TL_gs rfl rfl rfl rfl ?_
          refine TL_gs rfl rfl rfl rfl ?_
          refine TL_gs rfl rfl rfl rfl ?_
          refine TL_gs rfl rfl rfl rfl ?_
          refine TL_gs rfl rfl rfl rfl ?_
          refine TL_gs rfl rfl rfl rfl ?_
          refine TL_gs rfl rfl rfl rfl ?_
          refine TL_q rfl (QV_pickF rfl rfl) ?_
          refine TL_nil ?_
          refine W_condF (c := Operand.tmp 91) (by kernel_rfl) rfl ?_
          refine W_skip (by kernel_rfl) ?_
          -- R13
          have hcs := cS_los1 D part S2 (((idxU D n D.length).getD a []).getD j 0) (by rw [h2.m.c.nsource]; exact hhn)
          refine W_reg (l := [⟨some 108, Op.binOp BinOp.add 3 (Operand.tmp 57) (Operand.const (Value.int IntKind.i64 1)) 3, 3, none⟩, ⟨some 57, Op.move (Operand.tmp 108), 3, none⟩]) (by kernel_rfl) (by kernel_rfl) ?_
          refine TL_q rfl (QV_add (r := ((j + 1 : Nat) : Int)) rfl rfl (by omega) (by omega) (by omega)) ?_
          refine TL_q rfl (QV_move rfl) ?_
          refine TL_nil ?_
          first
            | exact ⟨(j + 1, ⟨_, lv2, qv2⟩), ⟨by omega, hqc2, h2.castS e2, by show cS (los1 D part S2 (((idxU D n D.length).getD a []).getD j 0)).source + (los1 D part S2 (((idxU D n D.length).getD a []).getD j 0)).lost.length = _; omega⟩, ⟨rfl, rfl, rfl, rfl, rfl, rfl, trivial⟩, by show ((idxU D n D.length).getD a []).length - (j + 1) < ((idxU D n D.length).getD a []).length - j; omega⟩
            | exact ⟨(j + 1, ⟨_, _, qv2⟩), ⟨by omega, hqc2, h6, by show cS (los1 D part S2 (((idxU D n D.length).getD a []).getD j 0)).source + (los1 D part S2 (((idxU D n D.length).getD a []).getD j 0)).lost.length = _; omega⟩, ⟨rfl, rfl, rfl, rfl, rfl, rfl, trivial⟩, by show ((idxU D n D.length).getD a []).length - (j + 1) < ((idxU D n D.length).getD a []).length - j; omega⟩
      ·
        have hje : j = ((idxU D n D.length).getD a []).length := by have := of_decide_eq_false hc58; omega
        subst hje
        rw [List.drop_length] at hqb
        refine W_exit 2 (by kernel_rfl) ?_
        show T Try.prog 404 (C Try.f40 [1, 1, 0, 0, 1, 0, 1]) _ _ _
        -- R3
        refine W_reg (l := [⟨some 32, Op.move (Operand.tmp 5), 3, none⟩, ⟨some 33, Op.binOp BinOp.add 3 (Operand.tmp 32) (Operand.const (Value.int IntKind.i64 1)) 3, 3, none⟩, ⟨some 5, Op.assign (Operand.tmp 33), 3, none⟩]) (by kernel_rfl) (by kernel_rfl) ?_
        refine TL_q rfl (QV_move rfl) ?_
        refine TL_q rfl (QV_add (r := ((i + 1 : Nat) : Int)) rfl rfl (by omega) (by omega) (by omega)) ?_
        refine TL_q rfl (QV_assign rfl) ?_
        refine TL_nil ?_
        first
          | exact ⟨(i + 1, ⟨S2, lv2, qv2⟩), ⟨hqb, h2⟩, ⟨rfl, rfl, rfl, trivial⟩, by show cS S2.source + S2.lost.length - (i + 1) < cS S1.source + S1.lost.length - i; omega⟩
          | exact ⟨(i + 1, ⟨S1, _, qv1⟩), ⟨hqa2, h1⟩, ⟨rfl, rfl, rfl, trivial⟩, by show cS S1.source + S1.lost.length - (i + 1) < cS S1.source + S1.lost.length - i; omega⟩
  ·
    have hi : ¬ i < S1.lost.length := by have := of_decide_eq_false hc31; omega
    refine W_exit 0 (by kernel_rfl) ?_
    exact hk _ _ S1 _ qv1 i ⟨rfl, rfl, trivial⟩ hqa hi h1

end Go.Proofs.Qxb6600121a
