/-
   Walks written by program (wip/gen).
-/
import Derived.Test.Qxb6600121aSolR
namespace Go.Proofs.Qxb6600121a
open Go Go.Proofs
set_option linter.unusedVariables false
set_option linter.unusedSimpArgs false

structure RS2 where
  S : SS
  rv : Value
  rd : List Nat
set_option maxRecDepth 10000 in
set_option maxHeartbeats 2000000 in
theorem phase2 (w : World) (L : Lay) (n : Nat) (D : List Rl) (S : SS) (Prot : Nat → Prop) (la : Option Addr) (lc : Nat) (qv rv : Value) (rd : List Nat) (h : SMR w w L n D S Prot (.slice la S.lost.length lc) qv rv rd) (hok : Okay n D) (hl : D.length + tot (D.map Rl.rd) ≤ 1048576) (hn : n ≤ 65536) (part : Nat) (QB : SS → List Nat → Nat → List Nat → Prop)
    (hBn : ∀ S rd i rs, QB S rd i rs → (∀ x ∈ S.lost, x < n) ∧ S.lost.length + rd.length ≤ 1000000000000)
    (hB1 : ∀ S rd i, QB S rd i [] → i < S.lost.length → S.val.getD (S.lost.getD i 0) 0 ≠ 1 → QB S rd (i + 1) [])
    (hB2 : ∀ S rd i, QB S rd i [] → i < S.lost.length → S.val.getD (S.lost.getD i 0) 0 = 1 → QB S rd (i + 1) ((idxH D n D.length).getD (S.lost.getD i 0) []))
    (hB3 : ∀ S rd i r rs, QB S rd i (r :: rs) → S.closed.getD r false = true → QB S rd i rs)
    (hB4 : ∀ S rd i r rs, QB S rd i (r :: rs) → S.closed.getD r false = false → QB (setN D part S r) (if needs D part S r = 0 then rd ++ [r] else rd) i rs) (h0 : QB S rd 0 []) (k : Ks)
    (hk : ∀ E' w' S' rv' rd', SubE [(0, .pointer (some ⟨L.s + 9, 0, none⟩)), (1, .int .i64 (part : Int)), (10, rv')] E' → QB S' rd' S.lost.length [] → S'.lost = S.lost → SMR w w' L n D S' Prot (.slice la S.lost.length lc) qv rv' rd' → k.nrm E' w') :
    T Try.prog 404 (C Try.f40 [1, 0, 1, 1, 1, 1]) [(0, .pointer (some ⟨L.s + 9, 0, none⟩)), (1, .int .i64 (part : Int)), (10, rv), (129, .slice la S.lost.length lc), (130, .int .i64 (S.lost.length : Nat)), (131, .int .i64 0)] w k := by
  obtain ⟨tb, htbv, htbB, htab⟩ := h.c.stat.bh
  have hb0 := hBn _ _ _ _ h0
  refine W_block 4 (by kernel_rfl) ?_
  refine W_loop (ι := Nat × RS2) (fun i w1 => i.1 ≤ S.lost.length ∧ QB i.2.S i.2.rd i.1 [] ∧ i.2.S.lost = S.lost ∧ SMR w w1 L n D i.2.S Prot (.slice la S.lost.length lc) qv i.2.rv i.2.rd) (fun i => [(0, .pointer (some ⟨L.s + 9, 0, none⟩)), (1, .int .i64 (part : Int)), (10, i.2.rv), (129, .slice la S.lost.length lc), (130, .int .i64 (S.lost.length : Nat)), (131, .int .i64 (i.1 : Int))]) (fun i => S.lost.length - i.1) (0, ⟨S, rv, rd⟩) (by kernel_rfl) ?_ ?_ ?_
  · exact ⟨Nat.zero_le _, h0, rfl, h⟩
  · exact ⟨rfl, rfl, rfl, rfl, rfl, rfl, trivial⟩
  rintro ⟨i, S1, rv1, rd1⟩ w1 ⟨hi, hqb, hlo, h1⟩
  dsimp only at hi hqb hlo h1 ⊢
  obtain ⟨hn1, hn2⟩ := hBn S1 rd1 i [] hqb
  refine W_seq (by kernel_rfl) ?_
  -- R17
  refine W_reg (l := [⟨some 132, Op.binOp BinOp.lss 3 (Operand.tmp 131) (Operand.tmp 130) 3, 0, none⟩]) (by kernel_rfl) (by kernel_rfl) ?_
  refine TL_q rfl (QV_lss rfl rfl) ?_
  refine TL_nil ?_
  refine W_seq (by kernel_rfl) ?_
  refine W_cond (c := Operand.tmp 132) (by kernel_rfl) rfl (fun hc132 => ?_) (fun hc132 => ?_)
  ·
    have hi2 : i < S.lost.length := by have := of_decide_eq_true hc132; omega
    have hrl1 := h1.rl
    rw [hlo] at hrl1
    obtain ⟨lg, rfl, hlcell⟩ := hrl1.cells hi2
    obtain ⟨a, haE⟩ : ∃ a, S.lost.getD i 0 = a := ⟨_, rfl⟩
    have hlcell := hlcell i hi2
    rw [haE] at hlcell
    have ha : a < n := hn1 a (by rw [hlo]; exact haE ▸ getD_mem 0 hi2)
    have hi3 : i < S1.lost.length := by rw [hlo]; exact hi2
    refine W_skip (by kernel_rfl) ?_
    refine W_seq (by kernel_rfl) ?_
    refine W_block 5 (by kernel_rfl) ?_
    refine W_seq (by kernel_rfl) ?_
    -- R18
    refine W_reg (l := [⟨some 133, Op.indexAddr 27 (Operand.tmp 129) (Operand.tmp 131), 0, none⟩, ⟨some 134, Op.load 3 (Operand.tmp 133), 3, none⟩, ⟨some 12, Op.assign (Operand.tmp 134), 3, none⟩]) (by kernel_rfl) (by kernel_rfl) ?_
    refine TL_q rfl (QV_idx1 rfl rfl el27 sz3 (hi2)) ?_
    refine TL_q rfl (QV_load rfl one3 (hlcell)) ?_
    refine TL_q rfl (QV_assign rfl) ?_
    refine TL_nil ?_
    refine W_seq (by kernel_rfl) ?_
    refine W_seq (by kernel_rfl) ?_
    -- R19
    refine W_reg (l := [⟨some 135, Op.move (Operand.tmp 0), 25, none⟩, ⟨some 136, Op.nilCheck (Operand.tmp 135), 0, none⟩, ⟨some 137, Op.fieldAddr 61 (Operand.tmp 136) 4, 0, none⟩, ⟨some 138, Op.load 47 (Operand.tmp 137), 47, none⟩, ⟨some 139, Op.move (Operand.tmp 12), 3, none⟩, ⟨some 140, Op.indexAddr 47 (Operand.tmp 138) (Operand.tmp 139), 0, none⟩, ⟨some 141, Op.load 45 (Operand.tmp 140), 45, none⟩, ⟨some 142, Op.binOp BinOp.neq 45 (Operand.tmp 141) (Operand.const (Value.int IntKind.i8 1)) 45, 4, none⟩]) (by kernel_rfl) (by kernel_rfl) ?_
    refine TL_q rfl (QV_move rfl) ?_
    refine TL_q rfl (QV_nil rfl) ?_
    refine TL_q rfl (QV_field rfl fld61_4) ?_
    refine TL_q rfl (QV_load rfl one47 (h1.c.c4)) ?_
    refine TL_q rfl (QV_move rfl) ?_
    refine TL_q rfl (QV_idx1 rfl rfl el47 sz45 (ha)) ?_
    refine TL_q rfl (QV_load rfl one45 (h1.c.bval.c8 (by rw [h1.c.nval]; exact ha))) ?_
    refine TL_q rfl (QV_neq rfl rfl) ?_
    refine TL_nil ?_
    refine W_cond (c := Operand.tmp 142) (by kernel_rfl) rfl (fun hc142 => ?_) (fun hc142 => ?_)
    ·
      have hqb2 := hB1 S1 rd1 i hqb hi3 (by rw [hlo, haE]; exact of_decide_eq_true hc142)
      refine W_exit 5 (by kernel_rfl) ?_
      show T Try.prog 404 (C Try.f40 [1, 1, 1, 0, 0, 1, 0, 1, 1, 1, 1]) _ _ _
      -- R34
      refine W_reg (l := [⟨some 236, Op.binOp BinOp.add 3 (Operand.tmp 131) (Operand.const (Value.int IntKind.i64 1)) 3, 3, none⟩, ⟨some 131, Op.move (Operand.tmp 236), 3, none⟩]) (by kernel_rfl) (by kernel_rfl) ?_
      refine TL_q rfl (QV_add (r := ((i + 1 : Nat) : Int)) rfl rfl (by omega) (by omega) (by omega)) ?_
      refine TL_q rfl (QV_move rfl) ?_
      refine TL_nil ?_
      first
        | exact ⟨(i + 1, ⟨S2, rv2, rd2⟩), ⟨by omega, hqc, hlo2, h2⟩, ⟨rfl, rfl, rfl, rfl, rfl, rfl, trivial⟩, by show S.lost.length - (i + 1) < S.lost.length - i; omega⟩
        | exact ⟨(i + 1, ⟨S1, rv1, rd1⟩), ⟨by omega, hqb2, hlo, h1⟩, ⟨rfl, rfl, rfl, rfl, rfl, rfl, trivial⟩, by show S.lost.length - (i + 1) < S.lost.length - i; omega⟩
    ·
      have hqb2 := hB2 S1 rd1 i hqb hi3 (by rw [hlo, haE]; exact Decidable.byContradiction (of_decide_eq_false hc142))
      rw [hlo, haE] at hqb2
      obtain ⟨va, hva, hints⟩ := htab a ha
      obtain ⟨qa, qc, rfl, hqc, hrow⟩ := hints.nat
      have hsh := idxH_short D n D.length a
      have ec1 := h1.c.c1
      rw [htbv] at ec1
      have hqb2 : QB S1 rd1 (i + 1) (((idxH D n D.length).getD a []).drop 0) := hqb2
      refine W_skip (by kernel_rfl) ?_
      refine W_seq (by kernel_rfl) ?_
      -- R20
      refine W_reg (l := [⟨some 143, Op.move (Operand.tmp 0), 25, none⟩, ⟨some 144, Op.nilCheck (Operand.tmp 143), 0, none⟩, ⟨some 145, Op.fieldAddr 61 (Operand.tmp 144) 1, 0, none⟩, ⟨some 146, Op.load 34 (Operand.tmp 145), 34, none⟩, ⟨some 147, Op.move (Operand.tmp 12), 3, none⟩, ⟨some 148, Op.indexAddr 34 (Operand.tmp 146) (Operand.tmp 147), 0, none⟩, ⟨some 149, Op.load 27 (Operand.tmp 148), 27, none⟩, ⟨some 150, Op.call { callee := Callee.builtin Builtin.len, args := #[Operand.tmp 149], argTypes := #[27] }, 3, none⟩, ⟨some 151, Op.move (Operand.const (Value.int IntKind.i64 0)), 3, none⟩]) (by kernel_rfl) (by kernel_rfl) ?_
      refine TL_q rfl (QV_move rfl) ?_
      refine TL_q rfl (QV_nil rfl) ?_
      refine TL_q rfl (QV_field rfl fld61_1) ?_
      refine TL_q rfl (QV_load rfl one34 (ec1)) ?_
      refine TL_q rfl (QV_move rfl) ?_
      refine TL_q rfl (QV_idx1 rfl rfl el34 sz27 (ha)) ?_
      refine TL_q rfl (QV_load rfl one27 (cel_fr hva h1.f (notFX (by omega)))) ?_
      refine TL_q rfl (QV_len rfl el27) ?_
      refine TL_q rfl (QV_move rfl) ?_
      refine TL_nil ?_
      refine W_block 6 (by kernel_rfl) ?_
      refine W_loop (ι := Nat × RS2) (fun j w2 => j.1 ≤ ((idxH D n D.length).getD a []).length ∧ QB j.2.S j.2.rd (i + 1) (((idxH D n D.length).getD a []).drop j.1) ∧ j.2.S.lost = S.lost ∧ SMR w w2 L n D j.2.S Prot (.slice (some ⟨lg, 0, none⟩) S.lost.length lc) qv j.2.rv j.2.rd) (fun j => [(0, .pointer (some ⟨L.s + 9, 0, none⟩)), (1, .int .i64 (part : Int)), (10, j.2.rv), (129, .slice (some ⟨lg, 0, none⟩) S.lost.length lc), (130, .int .i64 (S.lost.length : Nat)), (131, .int .i64 (i : Int)), (149, .slice qa ((idxH D n D.length).getD a []).length qc), (150, .int .i64 (((idxH D n D.length).getD a []).length : Nat)), (151, .int .i64 (j.1 : Int))]) (fun j => ((idxH D n D.length).getD a []).length - j.1) (0, ⟨S1, rv1, rd1⟩) (by kernel_rfl) ?_ ?_ ?_
      · exact ⟨Nat.zero_le _, hqb2, hlo, h1⟩
      · exact ⟨rfl, rfl, rfl, rfl, rfl, rfl, rfl, rfl, rfl, trivial⟩
      rintro ⟨j, S2, rv2, rd2⟩ w2 ⟨hj, hqc, hlo2, h2⟩
      dsimp only at hj hqc hlo2 h2 ⊢
      refine W_seq (by kernel_rfl) ?_
      -- R21
      refine W_reg (l := [⟨some 152, Op.binOp BinOp.lss 3 (Operand.tmp 151) (Operand.tmp 150) 3, 0, none⟩]) (by kernel_rfl) (by kernel_rfl) ?_
      refine TL_q rfl (QV_lss rfl rfl) ?_
      refine TL_nil ?_
      refine W_seq (by kernel_rfl) ?_
      refine W_cond (c := Operand.tmp 152) (by kernel_rfl) rfl (fun hc152 => ?_) (fun hc152 => ?_)
      ·
        have hlt : j < ((idxH D n D.length).getD a []).length := by have := of_decide_eq_true hc152; omega
        obtain ⟨b1, o1, rfl, hb1, hc1⟩ := hrow (by omega)
        obtain ⟨hrl, hrm⟩ := (mem_idxH D n D.length (Nat.le_refl _) hok a _).1 (getD_mem 0 hlt)
        have hoks := hok _ (getD_mem rl0 hrl)
        have htd := totD D _ hrl
        have htl := tot_take_le (D.map Rl.rd) ((((idxH D n D.length).getD a []).getD j 0) + 1)
        rw [drop_getD _ j 0 hlt] at hqc
        obtain ⟨hm1, hm2⟩ := hBn _ _ _ _ hqc
        obtain ⟨g1, va1, vu1, g2, g3, ga, gu⟩ := h.c.stat.rule hrl
        obtain ⟨aa, ca, rfl, hca, hall⟩ := ga.nat
        have g2 : cel w.heap L.s (0 + (((idxH D n D.length).getD a []).getD j 0) * 3 + 1) = some (.slice aa (D.getD (((idxH D n D.length).getD a []).getD j 0) rl0).all.length ca) := by rw [Nat.zero_add]; exact g2
        refine W_skip (by kernel_rfl) ?_
        refine W_seq (by kernel_rfl) ?_
        refine W_block 7 (by kernel_rfl) ?_
        refine W_seq (by kernel_rfl) ?_
        -- R22
        refine W_reg (l := [⟨some 153, Op.indexAddr 27 (Operand.tmp 149) (Operand.tmp 151), 0, none⟩, ⟨some 154, Op.load 3 (Operand.tmp 153), 3, none⟩, ⟨some 14, Op.assign (Operand.tmp 154), 3, none⟩]) (by kernel_rfl) (by kernel_rfl) ?_
        refine TL_q rfl (QV_idxO rfl rfl el27 sz3 (hlt)) ?_
        refine TL_q rfl (QV_load rfl one3 (cel_fr (hc1 j hlt) h2.f (notFX (by omega)))) ?_
        refine TL_q rfl (QV_assign rfl) ?_
        refine TL_nil ?_
        refine W_seq (by kernel_rfl) ?_
        refine W_seq (by kernel_rfl) ?_
        -- R23
        refine W_reg (l := [⟨some 155, Op.move (Operand.tmp 0), 25, none⟩, ⟨some 156, Op.nilCheck (Operand.tmp 155), 0, none⟩, ⟨some 157, Op.fieldAddr 61 (Operand.tmp 156) 11, 0, none⟩, ⟨some 158, Op.load 37 (Operand.tmp 157), 37, none⟩, ⟨some 159, Op.move (Operand.tmp 14), 3, none⟩, ⟨some 160, Op.indexAddr 37 (Operand.tmp 158) (Operand.tmp 159), 0, none⟩, ⟨some 161, Op.load 4 (Operand.tmp 160), 4, none⟩]) (by kernel_rfl) (by kernel_rfl) ?_
        refine TL_q rfl (QV_move rfl) ?_
        refine TL_q rfl (QV_nil rfl) ?_
        refine TL_q rfl (QV_field rfl fld61_11) ?_
        refine TL_q rfl (QV_load rfl one37 (h2.c.c11)) ?_
        refine TL_q rfl (QV_move rfl) ?_
        refine TL_q rfl (QV_idx1 rfl rfl el37 sz4 (hrl)) ?_
        refine TL_q rfl (QV_load rfl one4 (h2.c.bclosed.cB (by rw [h2.c.nclosed]; exact hrl))) ?_
        refine TL_nil ?_
        refine W_cond (c := Operand.tmp 161) (by kernel_rfl) rfl (fun hc161 => ?_) (fun hc161 => ?_)
        ·
          have hqd := hB3 _ _ _ _ _ hqc hc161
          refine W_exit 7 (by kernel_rfl) ?_
          show T Try.prog 404 (C Try.f40 [1, 1, 1, 0, 0, 1, 1, 1, 0, 0, 1, 1, 0, 0, 1, 0, 1, 1, 1, 1]) _ _ _
          -- R33
          refine W_reg (l := [⟨some 235, Op.binOp BinOp.add 3 (Operand.tmp 151) (Operand.const (Value.int IntKind.i64 1)) 3, 3, none⟩, ⟨some 151, Op.move (Operand.tmp 235), 3, none⟩]) (by kernel_rfl) (by kernel_rfl) ?_
          refine TL_q rfl (QV_add (r := ((j + 1 : Nat) : Int)) rfl rfl (by omega) (by omega) (by omega)) ?_
          refine TL_q rfl (QV_move rfl) ?_
          refine TL_nil ?_
          first
            | exact ⟨(j + 1, ⟨_, v7, _⟩), ⟨by omega, hqd, hlo2, h7⟩, ⟨rfl, rfl, rfl, rfl, rfl, rfl, rfl, rfl, rfl, trivial⟩, by show ((idxH D n D.length).getD a []).length - (j + 1) < ((idxH D n D.length).getD a []).length - j; omega⟩
            | exact ⟨(j + 1, ⟨_, rv2, rd2⟩), ⟨by omega, hqd, hlo2, h4⟩, ⟨rfl, rfl, rfl, rfl, rfl, rfl, rfl, rfl, rfl, trivial⟩, by show ((idxH D n D.length).getD a []).length - (j + 1) < ((idxH D n D.length).getD a []).length - j; omega⟩
            | exact ⟨(j + 1, ⟨S2, rv2, rd2⟩), ⟨by omega, hqd, hlo2, h2⟩, ⟨rfl, rfl, rfl, rfl, rfl, rfl, rfl, rfl, rfl, trivial⟩, by show ((idxH D n D.length).getD a []).length - (j + 1) < ((idxH D n D.length).getD a []).length - j; omega⟩
        ·
          have hqd := hB4 _ _ _ _ _ hqc hc161
          refine W_skip (by kernel_rfl) ?_
          refine W_seq (by kernel_rfl) ?_
          -- R24
          refine W_reg (l := [⟨some 162, Op.move (Operand.tmp 0), 25, none⟩, ⟨some 163, Op.nilCheck (Operand.tmp 162), 0, none⟩, ⟨some 164, Op.fieldAddr 61 (Operand.tmp 163) 12, 0, none⟩, ⟨some 165, Op.load 27 (Operand.tmp 164), 27, none⟩, ⟨some 166, Op.move (Operand.tmp 14), 3, none⟩, ⟨some 167, Op.indexAddr 27 (Operand.tmp 165) (Operand.tmp 166), 0, none⟩, ⟨none, Op.store 3 (Operand.tmp 167) (Operand.const (Value.int IntKind.i64 0)), 0, none⟩]) (by kernel_rfl) (by kernel_rfl) ?_
          refine TL_q rfl (QV_move rfl) ?_
          refine TL_q rfl (QV_nil rfl) ?_
          refine TL_q rfl (QV_field rfl fld61_12) ?_
          refine TL_q rfl (QV_load rfl one27 (h2.c.c12)) ?_
          refine TL_q rfl (QV_move rfl) ?_
          refine TL_q rfl (QV_idx1 rfl rfl el27 sz3 (hrl)) ?_
          refine TL_e (EV_store rfl rfl rfl sz3 h2.c.bneed (by rw [ints_len, h2.c.nneed]; exact hrl) fun w3 u3 => ?_)
          have h3 : SMR w w3 L n D ({ S2 with need := S2.need.set (((idxH D n D.length).getD a []).getD j 0) (((D.getD (((idxH D n D.length).getD a []).getD j 0) rl0).all.take 0).countP (condN part S2) : Nat) }) Prot _ qv rv2 rd2 := (h2.setNeed u3).castS (by simp)
          refine TL_nil ?_
          refine W_seq (by kernel_rfl) ?_
          refine W_seq (by kernel_rfl) ?_
          -- R25
          refine W_reg (l := [⟨some 168, Op.move (Operand.tmp 0), 25, none⟩, ⟨some 169, Op.nilCheck (Operand.tmp 168), 0, none⟩, ⟨some 170, Op.fieldAddr 61 (Operand.tmp 169) 0, 0, none⟩, ⟨some 171, Op.load 59 (Operand.tmp 170), 59, none⟩, ⟨some 172, Op.nilCheck (Operand.tmp 171), 0, none⟩, ⟨some 173, Op.fieldAddr 65 (Operand.tmp 172) 1, 0, none⟩, ⟨some 174, Op.load 53 (Operand.tmp 173), 53, none⟩, ⟨some 175, Op.move (Operand.tmp 14), 3, none⟩, ⟨some 176, Op.indexAddr 53 (Operand.tmp 174) (Operand.tmp 175), 0, none⟩, ⟨some 177, Op.fieldAddr 54 (Operand.tmp 176) 1, 0, none⟩, ⟨some 178, Op.load 27 (Operand.tmp 177), 27, none⟩, ⟨some 179, Op.call { callee := Callee.builtin Builtin.len, args := #[Operand.tmp 178], argTypes := #[27] }, 3, none⟩, ⟨some 180, Op.move (Operand.const (Value.int IntKind.i64 0)), 3, none⟩]) (by kernel_rfl) (by kernel_rfl) ?_
          refine TL_q rfl (QV_move rfl) ?_
          refine TL_q rfl (QV_nil rfl) ?_
          refine TL_q rfl (QV_field0 rfl fld61_0) ?_
          refine TL_q rfl (QV_load rfl one59 (h3.c.c0)) ?_
          refine TL_q rfl (QV_nil rfl) ?_
          refine TL_q rfl (QV_field rfl fld65_1) ?_
          refine TL_q rfl (QV_load rfl one53 (h3.c.stat.r1)) ?_
          refine TL_q rfl (QV_move rfl) ?_
          refine TL_q rfl (QV_idx rfl rfl el53 sz54 (hrl)) ?_
          refine TL_q rfl (QV_field rfl fld54_1) ?_
          refine TL_q rfl (QV_load rfl one27 (cel_fr g2 h3.f (notFX (Nat.le_refl _)))) ?_
          refine TL_q rfl (QV_len rfl el27) ?_
          refine TL_q rfl (QV_move rfl) ?_
          refine TL_nil ?_
          refine W_block 8 (by kernel_rfl) ?_
          refine W_loop (fun (m : Nat) w4 => m ≤ (D.getD (((idxH D n D.length).getD a []).getD j 0) rl0).all.length ∧ SMR w w4 L n D ({ S2 with need := S2.need.set (((idxH D n D.length).getD a []).getD j 0) (((D.getD (((idxH D n D.length).getD a []).getD j 0) rl0).all.take m).countP (condN part S2) : Nat) }) Prot (.slice (some ⟨lg, 0, none⟩) S.lost.length lc) qv rv2 rd2) (fun m => [(0, .pointer (some ⟨L.s + 9, 0, none⟩)), (1, .int .i64 (part : Int)), (10, rv2), (129, .slice (some ⟨lg, 0, none⟩) S.lost.length lc), (130, .int .i64 (S.lost.length : Nat)), (131, .int .i64 (i : Int)), (149, .slice (some ⟨b1, o1, none⟩) ((idxH D n D.length).getD a []).length qc), (150, .int .i64 (((idxH D n D.length).getD a []).length : Nat)), (151, .int .i64 (j : Int)), (14, .int .i64 (((((idxH D n D.length).getD a []).getD j 0) : Nat) : Int)), (178, .slice aa (D.getD (((idxH D n D.length).getD a []).getD j 0) rl0).all.length ca), (179, .int .i64 ((D.getD (((idxH D n D.length).getD a []).getD j 0) rl0).all.length : Nat)), (180, .int .i64 (m : Int))]) (fun m => (D.getD (((idxH D n D.length).getD a []).getD j 0) rl0).all.length - m) 0 (by kernel_rfl) ?_ ?_ ?_
          · exact ⟨Nat.zero_le _, h3⟩
          · exact ⟨rfl, rfl, rfl, rfl, rfl, rfl, rfl, rfl, rfl, rfl, rfl, rfl, rfl, trivial⟩
          rintro m w4 ⟨hm, h4⟩
          refine W_seq (by kernel_rfl) ?_
          -- R26
          refine W_reg (l := [⟨some 181, Op.binOp BinOp.lss 3 (Operand.tmp 180) (Operand.tmp 179) 3, 0, none⟩]) (by kernel_rfl) (by kernel_rfl) ?_
          refine TL_q rfl (QV_lss rfl rfl) ?_
          refine TL_nil ?_
          refine W_seq (by kernel_rfl) ?_
          refine W_cond (c := Operand.tmp 181) (by kernel_rfl) rfl (fun hc181 => ?_) (fun hc181 => ?_)
          ·
            have hml : m < (D.getD (((idxH D n D.length).getD a []).getD j 0) rl0).all.length := by have := of_decide_eq_true hc181; omega
            obtain ⟨b2, o2, rfl, hb2, hc2⟩ := hall (by omega)
            have hbn := hoks.2.1 _ (getD_mem 0 hml)
            have hcp := countP_take_succ (D.getD (((idxH D n D.length).getD a []).getD j 0) rl0).all m hml (condN part S2)
            have hcl := List.countP_le_length (p := condN part S2) (l := (D.getD (((idxH D n D.length).getD a []).getD j 0) rl0).all.take m)
            rw [List.length_take] at hcl
            have gpart := h4.c.bpart.cI (k := (D.getD (((idxH D n D.length).getD a []).getD j 0) rl0).all.getD m 0) (by rw [h4.c.npart]; exact hbn)
            have gval := h4.c.bval.c8 (k := (D.getD (((idxH D n D.length).getD a []).getD j 0) rl0).all.getD m 0) (by rw [h4.c.nval]; exact hbn)
            have gsrc := h4.c.bsource.cI (k := (D.getD (((idxH D n D.length).getD a []).getD j 0) rl0).all.getD m 0) (by rw [h4.c.nsource]; exact hbn)
            have gneed := h4.c.bneed.cI (k := (((idxH D n D.length).getD a []).getD j 0)) (by rw [h4.c.nneed]; exact hrl)
            dsimp only at gpart gval gsrc gneed
            rw [getD_set_eq _ _ _ _ (by rw [h2.c.nneed]; exact hrl)] at gneed
            refine W_skip (by kernel_rfl) ?_
            refine W_seq (by kernel_rfl) ?_
            refine W_block 9 (by kernel_rfl) ?_
            refine W_seq (by kernel_rfl) ?_
            -- R27
            refine W_reg (l := [⟨some 182, Op.indexAddr 27 (Operand.tmp 178) (Operand.tmp 180), 0, none⟩, ⟨some 183, Op.load 3 (Operand.tmp 182), 3, none⟩, ⟨some 16, Op.assign (Operand.tmp 183), 3, none⟩]) (by kernel_rfl) (by kernel_rfl) ?_
            refine TL_q rfl (QV_idxO rfl rfl el27 sz3 (hml)) ?_
            refine TL_q rfl (QV_load rfl one3 (cel_fr (hc2 m hml) h4.f (notFX hb2))) ?_
            refine TL_q rfl (QV_assign rfl) ?_
            refine TL_nil ?_
            refine W_seq (by kernel_rfl) ?_
            -- R28
            refine W_reg (l := [⟨some 184, Op.move (Operand.tmp 0), 25, none⟩, ⟨some 185, Op.nilCheck (Operand.tmp 184), 0, none⟩, ⟨some 186, Op.fieldAddr 61 (Operand.tmp 185) 5, 0, none⟩, ⟨some 187, Op.load 27 (Operand.tmp 186), 27, none⟩, ⟨some 188, Op.move (Operand.tmp 16), 3, none⟩, ⟨some 189, Op.indexAddr 27 (Operand.tmp 187) (Operand.tmp 188), 0, none⟩, ⟨some 190, Op.load 3 (Operand.tmp 189), 3, none⟩, ⟨some 191, Op.move (Operand.tmp 1), 3, none⟩, ⟨some 192, Op.binOp BinOp.eql 3 (Operand.tmp 190) (Operand.tmp 191) 3, 4, none⟩, ⟨some 193, Op.move (Operand.tmp 192), 4, none⟩, ⟨some 194, Op.move (Operand.tmp 0), 25, some (9, true)⟩, ⟨some 195, Op.nilCheck (Operand.tmp 194), 0, some (9, true)⟩, ⟨some 196, Op.fieldAddr 61 (Operand.tmp 195) 4, 0, some (9, true)⟩, ⟨some 197, Op.load 47 (Operand.tmp 196), 47, some (9, true)⟩, ⟨some 198, Op.move (Operand.tmp 16), 3, some (9, true)⟩, ⟨some 199, Op.indexAddr 47 (Operand.tmp 197) (Operand.tmp 198), 0, some (9, true)⟩, ⟨some 200, Op.load 45 (Operand.tmp 199), 45, some (9, true)⟩, ⟨some 201, Op.binOp BinOp.eql 45 (Operand.tmp 200) (Operand.const (Value.int IntKind.i8 1)) 45, 4, some (9, true)⟩, ⟨some 202, Op.pick (Operand.tmp 193) (Operand.tmp 201) (Operand.const (Value.bool false)), 4, none⟩, ⟨some 203, Op.move (Operand.tmp 202), 4, none⟩, ⟨some 204, Op.move (Operand.tmp 0), 25, some (19, true)⟩, ⟨some 205, Op.nilCheck (Operand.tmp 204), 0, some (19, true)⟩, ⟨some 206, Op.fieldAddr 61 (Operand.tmp 205) 7, 0, some (19, true)⟩, ⟨some 207, Op.load 27 (Operand.tmp 206), 27, some (19, true)⟩, ⟨some 208, Op.move (Operand.tmp 16), 3, some (19, true)⟩, ⟨some 209, Op.indexAddr 27 (Operand.tmp 207) (Operand.tmp 208), 0, some (19, true)⟩, ⟨some 210, Op.load 3 (Operand.tmp 209), 3, some (19, true)⟩, ⟨some 211, Op.binOp BinOp.lss 3 (Operand.tmp 210) (Operand.const (Value.int IntKind.i64 0)) 3, 4, some (19, true)⟩, ⟨some 212, Op.pick (Operand.tmp 203) (Operand.tmp 211) (Operand.const (Value.bool false)), 4, none⟩]) (by kernel_rfl) (by kernel_rfl) ?_
            refine TL_q rfl (QV_move rfl) ?_
            refine TL_q rfl (QV_nil rfl) ?_
            refine TL_q rfl (QV_field rfl fld61_5) ?_
            refine TL_q rfl (QV_load rfl one27 (h4.c.c5)) ?_
            refine TL_q rfl (QV_move rfl) ?_
            refine TL_q rfl (QV_idx1 rfl rfl el27 sz3 (hbn)) ?_
            refine TL_q rfl (QV_load rfl one3 (gpart)) ?_
            refine TL_q rfl (QV_move rfl) ?_
            refine TL_q rfl (QV_eql rfl rfl) ?_
            refine TL_q rfl (QV_move rfl) ?_
            refine TL_cases (t := 193) rfl (fun hb193 => ?_) (fun hb193 => ?_)
            ·
              have k1 := of_decide_eq_true hb193
              refine TL_gq rfl rfl rfl rfl (QV_move rfl) ?_
              refine TL_gq rfl rfl rfl rfl (QV_nil rfl) ?_
              refine TL_gq rfl rfl rfl rfl (QV_field rfl fld61_4) ?_
              refine TL_gq rfl rfl rfl rfl (QV_load rfl one47 (h4.c.c4)) ?_
              refine TL_gq rfl rfl rfl rfl (QV_move rfl) ?_
              refine TL_gq rfl rfl rfl rfl (QV_idx1 rfl rfl el47 sz45 (hbn)) ?_
              refine TL_gq rfl rfl rfl rfl (QV_load rfl one45 (gval)) ?_
              refine TL_gq rfl rfl rfl rfl (QV_eql rfl rfl) ?_
              refine TL_q rfl (QV_pickT rfl rfl) ?_
              refine TL_q rfl (QV_move rfl) ?_
              refine TL_cases (t := 203) rfl (fun hb203 => ?_) (fun hb203 => ?_)
              ·
                have k2 := of_decide_eq_true hb203
                refine TL_gq rfl rfl rfl rfl (QV_move rfl) ?_
                refine TL_gq rfl rfl rfl rfl (QV_nil rfl) ?_
                refine TL_gq rfl rfl rfl rfl (QV_field rfl fld61_7) ?_
                refine TL_gq rfl rfl rfl rfl (QV_load rfl one27 (h4.c.c7)) ?_
                refine TL_gq rfl rfl rfl rfl (QV_move rfl) ?_
                refine TL_gq rfl rfl rfl rfl (QV_idx1 rfl rfl el27 sz3 (hbn)) ?_
                refine TL_gq rfl rfl rfl rfl (QV_load rfl one3 (gsrc)) ?_
                refine TL_gq rfl rfl rfl rfl (QV_lss rfl rfl) ?_
                refine TL_q rfl (QV_pickT rfl rfl) ?_
                refine TL_nil ?_
                refine W_cond (c := Operand.tmp 212) (by kernel_rfl) rfl (fun hc212 => ?_) (fun hc212 => ?_)
                ·
                  have kc : condN part S2 ((D.getD (((idxH D n D.length).getD a []).getD j 0) rl0).all.getD m 0) = true := decide_eq_true ⟨k1, k2, of_decide_eq_true hc212⟩
                  -- R29
                  refine W_reg (l := [⟨some 213, Op.move (Operand.tmp 0), 25, none⟩, ⟨some 214, Op.nilCheck (Operand.tmp 213), 0, none⟩, ⟨some 215, Op.fieldAddr 61 (Operand.tmp 214) 12, 0, none⟩, ⟨some 216, Op.load 27 (Operand.tmp 215), 27, none⟩, ⟨some 217, Op.move (Operand.tmp 14), 3, none⟩, ⟨some 218, Op.indexAddr 27 (Operand.tmp 216) (Operand.tmp 217), 0, none⟩, ⟨some 219, Op.load 3 (Operand.tmp 218), 3, none⟩, ⟨some 220, Op.binOp BinOp.add 3 (Operand.tmp 219) (Operand.const (Value.int IntKind.i64 1)) 3, 3, none⟩, ⟨some 221, Op.indexAddr 27 (Operand.tmp 216) (Operand.tmp 217), 0, none⟩, ⟨none, Op.store 3 (Operand.tmp 221) (Operand.tmp 220), 0, none⟩]) (by kernel_rfl) (by kernel_rfl) ?_
                  refine TL_q rfl (QV_move rfl) ?_
                  refine TL_q rfl (QV_nil rfl) ?_
                  refine TL_q rfl (QV_field rfl fld61_12) ?_
                  refine TL_q rfl (QV_load rfl one27 (h4.c.c12)) ?_
                  refine TL_q rfl (QV_move rfl) ?_
                  refine TL_q rfl (QV_idx1 rfl rfl el27 sz3 (hrl)) ?_
                  refine TL_q rfl (QV_load rfl one3 (gneed)) ?_
                  refine TL_q rfl (QV_add (r := ((((D.getD (((idxH D n D.length).getD a []).getD j 0) rl0).all.take m).countP (condN part S2) + 1 : Nat) : Int)) rfl rfl (by omega) (by omega) (by omega)) ?_
                  refine TL_q rfl (QV_idx1 rfl rfl el27 sz3 (hrl)) ?_
                  refine TL_e (EV_store rfl rfl rfl sz3 h4.c.bneed (by rw [ints_len, h4.c.nneed]; exact hrl) fun w5 u5 => ?_)
                  have h5 : SMR w w5 L n D ({ S2 with need := S2.need.set (((idxH D n D.length).getD a []).getD j 0) (((D.getD (((idxH D n D.length).getD a []).getD j 0) rl0).all.take (m + 1)).countP (condN part S2) : Nat) }) Prot _ qv rv2 rd2 := (h4.setNeed u5).castS (by rw [hcp, kc]; simp)
                  refine TL_nil ?_
                  -- R30
                  refine W_reg (l := [⟨some 222, Op.binOp BinOp.add 3 (Operand.tmp 180) (Operand.const (Value.int IntKind.i64 1)) 3, 3, none⟩, ⟨some 180, Op.move (Operand.tmp 222), 3, none⟩]) (by kernel_rfl) (by kernel_rfl) ?_
                  refine TL_q rfl (QV_add (r := ((m + 1 : Nat) : Int)) rfl rfl (by omega) (by omega) (by omega)) ?_
                  refine TL_q rfl (QV_move rfl) ?_
                  refine TL_nil ?_
                  first
                    | exact ⟨m + 1, ⟨by omega, h5⟩, ⟨rfl, rfl, rfl, rfl, rfl, rfl, rfl, rfl, rfl, rfl, rfl, rfl, rfl, trivial⟩, by omega⟩
                    | exact ⟨m + 1, ⟨by omega, h4.castS (by rw [hcp, kc]; rfl)⟩, ⟨rfl, rfl, rfl, rfl, rfl, rfl, rfl, rfl, rfl, rfl, rfl, rfl, rfl, trivial⟩, by omega⟩
                ·
                  have kc : condN part S2 ((D.getD (((idxH D n D.length).getD a []).getD j 0) rl0).all.getD m 0) = false := decide_eq_false (fun e => of_decide_eq_false hc212 e.2.2)
                  refine W_skip (by kernel_rfl) ?_
                  -- R30
                  refine W_reg (l := [⟨some 222, Op.binOp BinOp.add 3 (Operand.tmp 180) (Operand.const (Value.int IntKind.i64 1)) 3, 3, none⟩, ⟨some 180, Op.move (Operand.tmp 222), 3, none⟩]) (by kernel_rfl) (by kernel_rfl) ?_
                  refine TL_q rfl (QV_add (r := ((m + 1 : Nat) : Int)) rfl rfl (by omega) (by omega) (by omega)) ?_
                  refine TL_q rfl (QV_move rfl) ?_
                  refine TL_nil ?_
                  first
                    | exact ⟨m + 1, ⟨by omega, h5⟩, ⟨rfl, rfl, rfl, rfl, rfl, rfl, rfl, rfl, rfl, rfl, rfl, rfl, rfl, trivial⟩, by omega⟩
                    | exact ⟨m + 1, ⟨by omega, h4.castS (by rw [hcp, kc]; rfl)⟩, ⟨rfl, rfl, rfl, rfl, rfl, rfl, rfl, rfl, rfl, rfl, rfl, rfl, rfl, trivial⟩, by omega⟩
              ·
                have kc : condN part S2 ((D.getD (((idxH D n D.length).getD a []).getD j 0) rl0).all.getD m 0) = false := decide_eq_false (fun e => of_decide_eq_false hb203 e.2.1)
                refine TL_gs rfl rfl rfl rfl ?_
                refine TL_gs rfl rfl rfl rfl ?_
                refine TL_gs rfl rfl rfl rfl ?_
                refine TL_gs rfl rfl rfl rfl ?_
                refine TL_gs rfl rfl rfl rfl ?_
                refine TL_gs rfl rfl rfl rfl ?_
                refine TL_gs rfl rfl rfl rfl ?_
                refine TL_gs rfl rfl rfl rfl ?_
                refine TL_q rfl (QV_pickF rfl rfl) ?_
                refine TL_nil ?_
                refine W_condF (c := Operand.tmp 212) (by kernel_rfl) rfl ?_
                refine W_skip (by kernel_rfl) ?_
                -- R30
                refine W_reg (l := [⟨some 222, Op.binOp BinOp.add 3 (Operand.tmp 180) (Operand.const (Value.int IntKind.i64 1)) 3, 3, none⟩, ⟨some 180, Op.move (Operand.tmp 222), 3, none⟩]) (by kernel_rfl) (by kernel_rfl) ?_
                refine TL_q rfl (QV_add (r := ((m + 1 : Nat) : Int)) rfl rfl (by omega) (by omega) (by omega)) ?_
                refine TL_q rfl (QV_move rfl) ?_
                refine TL_nil ?_
                first
                  | exact ⟨m + 1, ⟨by omega, h5⟩, ⟨rfl, rfl, rfl, rfl, rfl, rfl, rfl, rfl, rfl, rfl, rfl, rfl, rfl, trivial⟩, by omega⟩
                  | exact ⟨m + 1, ⟨by omega, h4.castS (by rw [hcp, kc]; rfl)⟩, ⟨rfl, rfl, rfl, rfl, rfl, rfl, rfl, rfl, rfl, rfl, rfl, rfl, rfl, trivial⟩, by omega⟩
            ·
              have kc : condN part S2 ((D.getD (((idxH D n D.length).getD a []).getD j 0) rl0).all.getD m 0) = false := decide_eq_false (fun e => of_decide_eq_false hb193 e.1)
              refine TL_gs rfl rfl rfl rfl ?_
              refine TL_gs rfl rfl rfl rfl ?_
              refine TL_gs rfl rfl rfl rfl ?_
              refine TL_gs rfl rfl rfl rfl ?_
              refine TL_gs rfl rfl rfl rfl ?_
              refine TL_gs rfl rfl rfl rfl ?_
              refine TL_gs rfl rfl rfl rfl ?_
              refine TL_gs rfl rfl rfl rfl ?_
              refine TL_q rfl (QV_pickF rfl rfl) ?_
              refine TL_q rfl (QV_move rfl) ?_
              refine TL_gs rfl rfl rfl rfl ?_
              refine TL_gs rfl rfl rfl rfl ?_
              refine TL_gs rfl rfl rfl rfl ?_
              refine TL_gs rfl rfl rfl rfl ?_
              refine TL_gs rfl rfl rfl rfl ?_
              refine TL_gs rfl rfl rfl rfl ?_
              refine TL_gs rfl rfl rfl rfl ?_
              refine TL_gs rfl rfl rfl rfl ?_
              refine TL_q rfl (QV_pickF rfl rfl) ?_
              refine TL_nil ?_
              refine W_condF (c := Operand.tmp 212) (by kernel_rfl) rfl ?_
              refine W_skip (by kernel_rfl) ?_
              -- R30
              refine W_reg (l := [⟨some 222, Op.binOp BinOp.add 3 (Operand.tmp 180) (Operand.const (Value.int IntKind.i64 1)) 3, 3, none⟩, ⟨some 180, Op.move (Operand.tmp 222), 3, none⟩]) (by kernel_rfl) (by kernel_rfl) ?_
              refine TL_q rfl (QV_add (r := ((m + 1 : Nat) : Int)) rfl rfl (by omega) (by omega) (by omega)) ?_
              refine TL_q rfl (QV_move rfl) ?_
              refine TL_nil ?_
              first
                | exact ⟨m + 1, ⟨by omega, h5⟩, ⟨rfl, rfl, rfl, rfl, rfl, rfl, rfl, rfl, rfl, rfl, rfl, rfl, rfl, trivial⟩, by omega⟩
                | exact ⟨m + 1, ⟨by omega, h4.castS (by rw [hcp, kc]; rfl)⟩, ⟨rfl, rfl, rfl, rfl, rfl, rfl, rfl, rfl, rfl, rfl, rfl, rfl, rfl, trivial⟩, by omega⟩
          ·
            have hme : m = (D.getD (((idxH D n D.length).getD a []).getD j 0) rl0).all.length := by have := of_decide_eq_false hc181; omega
            subst hme
            rw [List.take_length] at h4
            have h4 : SMR w w4 L n D (setN D part S2 (((idxH D n D.length).getD a []).getD j 0)) Prot (.slice (some ⟨lg, 0, none⟩) S.lost.length lc) qv rv2 rd2 := h4
            have gneed := h4.c.bneed.cI (k := (((idxH D n D.length).getD a []).getD j 0)) (by rw [h4.c.nneed]; exact hrl)
            have en : (setN D part S2 (((idxH D n D.length).getD a []).getD j 0)).need.getD (((idxH D n D.length).getD a []).getD j 0) 0 = (needs D part S2 (((idxH D n D.length).getD a []).getD j 0) : Int) := getD_set_eq _ _ _ _ (by rw [h2.c.nneed]; exact hrl)
            rw [en] at gneed
            refine W_exit 8 (by kernel_rfl) ?_
            show T Try.prog 404 (C Try.f40 [1, 1, 1, 1, 0, 0, 1, 1, 0, 0, 1, 1, 1, 0, 0, 1, 1, 0, 0, 1, 0, 1, 1, 1, 1]) _ _ _
            refine W_seq (by kernel_rfl) ?_
            -- R31
            refine W_reg (l := [⟨some 223, Op.move (Operand.tmp 0), 25, none⟩, ⟨some 224, Op.nilCheck (Operand.tmp 223), 0, none⟩, ⟨some 225, Op.fieldAddr 61 (Operand.tmp 224) 12, 0, none⟩, ⟨some 226, Op.load 27 (Operand.tmp 225), 27, none⟩, ⟨some 227, Op.move (Operand.tmp 14), 3, none⟩, ⟨some 228, Op.indexAddr 27 (Operand.tmp 226) (Operand.tmp 227), 0, none⟩, ⟨some 229, Op.load 3 (Operand.tmp 228), 3, none⟩, ⟨some 230, Op.binOp BinOp.eql 3 (Operand.tmp 229) (Operand.const (Value.int IntKind.i64 0)) 3, 4, none⟩]) (by kernel_rfl) (by kernel_rfl) ?_
            refine TL_q rfl (QV_move rfl) ?_
            refine TL_q rfl (QV_nil rfl) ?_
            refine TL_q rfl (QV_field rfl fld61_12) ?_
            refine TL_q rfl (QV_load rfl one27 (h4.c.c12)) ?_
            refine TL_q rfl (QV_move rfl) ?_
            refine TL_q rfl (QV_idx1 rfl rfl el27 sz3 (hrl)) ?_
            refine TL_q rfl (QV_load rfl one3 (gneed)) ?_
            refine TL_q rfl (QV_eql rfl rfl) ?_
            refine TL_nil ?_
            refine W_cond (c := Operand.tmp 230) (by kernel_rfl) rfl (fun hc230 => ?_) (fun hc230 => ?_)
            ·
              have hz : needs D part S2 (((idxH D n D.length).getD a []).getD j 0) = 0 := by have := of_decide_eq_true hc230; omega
              rw [if_pos hz] at hqd
              obtain ⟨ra, rc, rfl, -⟩ := h4.rr.form
              -- R32
              refine W_reg (l := [⟨some 231, Op.move (Operand.tmp 10), 27, none⟩, ⟨some 232, Op.move (Operand.tmp 14), 3, none⟩, ⟨some 233, Op.buildSlice 27 1 #[(0, Operand.tmp 232)], 27, none⟩, ⟨some 234, Op.call { callee := Callee.builtin Builtin.append, args := #[Operand.tmp 231, Operand.tmp 233], argTypes := #[27, 27] }, 27, none⟩, ⟨some 10, Op.assign (Operand.tmp 234), 27, none⟩]) (by kernel_rfl) (by kernel_rfl) ?_
              refine TL_q rfl (QV_move rfl) ?_
              refine TL_q rfl (QV_move rfl) ?_
              refine TL_e (EV_lit1 rfl rfl rfl el27 in3 rfl fun w6 k6 => ?_)
              refine TL_e (EV_append rfl rfl rfl el27 in3 rfl (by decide) (h4.rr.fr k6.fr (fun _ _ h => h)) rfl (news1 k6.blk) (one1 rfl) (by omega) (by omega) fun v7 w7 hrow7 h67 hat => ?_)
              have h7 := h4.pushR k6 hrow7 h67 hat
              refine TL_q rfl (QV_assign rfl) ?_
              refine TL_nil ?_
              -- R33
              refine W_reg (l := [⟨some 235, Op.binOp BinOp.add 3 (Operand.tmp 151) (Operand.const (Value.int IntKind.i64 1)) 3, 3, none⟩, ⟨some 151, Op.move (Operand.tmp 235), 3, none⟩]) (by kernel_rfl) (by kernel_rfl) ?_
              refine TL_q rfl (QV_add (r := ((j + 1 : Nat) : Int)) rfl rfl (by omega) (by omega) (by omega)) ?_
              refine TL_q rfl (QV_move rfl) ?_
              refine TL_nil ?_
              first
                | exact ⟨(j + 1, ⟨_, v7, _⟩), ⟨by omega, hqd, hlo2, h7⟩, ⟨rfl, rfl, rfl, rfl, rfl, rfl, rfl, rfl, rfl, trivial⟩, by show ((idxH D n D.length).getD a []).length - (j + 1) < ((idxH D n D.length).getD a []).length - j; omega⟩
                | exact ⟨(j + 1, ⟨_, rv2, rd2⟩), ⟨by omega, hqd, hlo2, h4⟩, ⟨rfl, rfl, rfl, rfl, rfl, rfl, rfl, rfl, rfl, trivial⟩, by show ((idxH D n D.length).getD a []).length - (j + 1) < ((idxH D n D.length).getD a []).length - j; omega⟩
                | exact ⟨(j + 1, ⟨S2, rv2, rd2⟩), ⟨by omega, hqd, hlo2, h2⟩, ⟨rfl, rfl, rfl, rfl, rfl, rfl, rfl, rfl, rfl, trivial⟩, by show ((idxH D n D.length).getD a []).length - (j + 1) < ((idxH D n D.length).getD a []).length - j; omega⟩
            ·
              have hz : ¬ needs D part S2 (((idxH D n D.length).getD a []).getD j 0) = 0 := by have := of_decide_eq_false hc230; omega
              rw [if_neg hz] at hqd
              refine W_skip (by kernel_rfl) ?_
              -- R33
              refine W_reg (l := [⟨some 235, Op.binOp BinOp.add 3 (Operand.tmp 151) (Operand.const (Value.int IntKind.i64 1)) 3, 3, none⟩, ⟨some 151, Op.move (Operand.tmp 235), 3, none⟩]) (by kernel_rfl) (by kernel_rfl) ?_
              refine TL_q rfl (QV_add (r := ((j + 1 : Nat) : Int)) rfl rfl (by omega) (by omega) (by omega)) ?_
              refine TL_q rfl (QV_move rfl) ?_
              refine TL_nil ?_
              first
                | exact ⟨(j + 1, ⟨_, v7, _⟩), ⟨by omega, hqd, hlo2, h7⟩, ⟨rfl, rfl, rfl, rfl, rfl, rfl, rfl, rfl, rfl, trivial⟩, by show ((idxH D n D.length).getD a []).length - (j + 1) < ((idxH D n D.length).getD a []).length - j; omega⟩
                | exact ⟨(j + 1, ⟨_, rv2, rd2⟩), ⟨by omega, hqd, hlo2, h4⟩, ⟨rfl, rfl, rfl, rfl, rfl, rfl, rfl, rfl, rfl, trivial⟩, by show ((idxH D n D.length).getD a []).length - (j + 1) < ((idxH D n D.length).getD a []).length - j; omega⟩
                | exact ⟨(j + 1, ⟨S2, rv2, rd2⟩), ⟨by omega, hqd, hlo2, h2⟩, ⟨rfl, rfl, rfl, rfl, rfl, rfl, rfl, rfl, rfl, trivial⟩, by show ((idxH D n D.length).getD a []).length - (j + 1) < ((idxH D n D.length).getD a []).length - j; omega⟩
      ·
        have hje : j = ((idxH D n D.length).getD a []).length := by have := of_decide_eq_false hc152; omega
        subst hje
        rw [List.drop_length] at hqc
        refine W_exit 6 (by kernel_rfl) ?_
        show T Try.prog 404 (C Try.f40 [1, 1, 1, 0, 0, 1, 0, 1, 1, 1, 1]) _ _ _
        -- R34
        refine W_reg (l := [⟨some 236, Op.binOp BinOp.add 3 (Operand.tmp 131) (Operand.const (Value.int IntKind.i64 1)) 3, 3, none⟩, ⟨some 131, Op.move (Operand.tmp 236), 3, none⟩]) (by kernel_rfl) (by kernel_rfl) ?_
        refine TL_q rfl (QV_add (r := ((i + 1 : Nat) : Int)) rfl rfl (by omega) (by omega) (by omega)) ?_
        refine TL_q rfl (QV_move rfl) ?_
        refine TL_nil ?_
        first
          | exact ⟨(i + 1, ⟨S2, rv2, rd2⟩), ⟨by omega, hqc, hlo2, h2⟩, ⟨rfl, rfl, rfl, rfl, rfl, rfl, trivial⟩, by show S.lost.length - (i + 1) < S.lost.length - i; omega⟩
          | exact ⟨(i + 1, ⟨S1, rv1, rd1⟩), ⟨by omega, hqb2, hlo, h1⟩, ⟨rfl, rfl, rfl, rfl, rfl, rfl, trivial⟩, by show S.lost.length - (i + 1) < S.lost.length - i; omega⟩
  ·
    have hie : i = S.lost.length := by have := of_decide_eq_false hc132; omega
    refine W_exit 4 (by kernel_rfl) ?_
    exact hk _ _ S1 rv1 rd1 ⟨rfl, rfl, rfl, trivial⟩ (by rw [← hie]; exact hqb) hlo h1

end Go.Proofs.Qxb6600121a
