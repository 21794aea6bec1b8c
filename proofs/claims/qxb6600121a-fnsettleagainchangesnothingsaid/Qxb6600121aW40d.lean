/-
   Walks written by program (wip/gen).
-/
import Derived.Test.Qxb6600121aW40c
namespace Go.Proofs.Qxb6600121a
open Go Go.Proofs
set_option linter.unusedVariables false
set_option linter.unusedSimpArgs false

set_option maxRecDepth 10000 in
set_option maxHeartbeats 2000000 in
theorem phase4 (w : World) (L : Lay) (n : Nat) (D : List Rl) (S : SS) (Prot : Nat → Prop) (la : Option Addr) (lc : Nat) (qv : Value) (fd : Bool) (h : SMF w w L n D S Prot (.slice la S.lost.length lc) qv) (part : Nat) (QD : SS → Bool → Nat → Prop)
    (hDn : ∀ S b i, QD S b i → (∀ x ∈ S.lost, x < n) ∧ S.queue.length ≤ 1000000000000)
    (hD1 : ∀ S b i, QD S b i → i < S.lost.length → ¬ (S.val.getD (S.lost.getD i 0) 0 = 1 ∧ S.source.getD (S.lost.getD i 0) 0 < 0) → QD S b (i + 1))
    (hD2 : ∀ S b i, QD S b i → i < S.lost.length → (S.val.getD (S.lost.getD i 0) 0 = 1 ∧ S.source.getD (S.lost.getD i 0) 0 < 0) → QD (decideF S (S.lost.getD i 0) 0) true (i + 1)) (h0 : QD S fd 0) (hb : S.lost.length ≤ 1000000000000) (k : Ks)
    (hk : ∀ E' w' S' qv' b, SubE [(0, .pointer (some ⟨L.s + 9, 0, none⟩)), (1, .int .i64 (part : Int)), (22, .bool b)] E' → QD S' b S.lost.length → S'.lost = S.lost → SMF w w' L n D S' Prot (.slice la S.lost.length lc) qv' → k.nrm E' w') :
    T Try.prog 404 (C Try.f40 [1, 0, 1, 1, 1, 1, 1, 1, 1, 1]) [(0, .pointer (some ⟨L.s + 9, 0, none⟩)), (1, .int .i64 (part : Int)), (22, .bool fd), (367, .slice la S.lost.length lc), (368, .int .i64 (S.lost.length : Nat)), (369, .int .i64 0)] w k := by
  refine W_block 14 (by kernel_rfl) ?_
  refine W_loop (ι := Nat × FS × Bool) (fun i w1 => i.1 ≤ S.lost.length ∧ QD i.2.1.S i.2.2 i.1 ∧ i.2.1.S.lost = S.lost ∧ SMF w w1 L n D i.2.1.S Prot (.slice la S.lost.length lc) i.2.1.qv) (fun i => [(0, .pointer (some ⟨L.s + 9, 0, none⟩)), (1, .int .i64 (part : Int)), (22, .bool i.2.2), (367, .slice la S.lost.length lc), (368, .int .i64 (S.lost.length : Nat)), (369, .int .i64 (i.1 : Int))]) (fun i => S.lost.length - i.1) (0, ⟨S, .slice la S.lost.length lc, qv⟩, fd) (by kernel_rfl) ?_ ?_ ?_
  · exact ⟨Nat.zero_le _, h0, rfl, h⟩
  · exact ⟨rfl, rfl, rfl, rfl, rfl, rfl, trivial⟩
  rintro ⟨i, ⟨S1, lv1, qv1⟩, fd1⟩ w1 ⟨hi, hqd, hlo, h1⟩
  dsimp only at hi hqd hlo h1 ⊢
  obtain ⟨hn1, hn2⟩ := hDn S1 fd1 i hqd
  refine W_seq (by kernel_rfl) ?_
  -- R53
  refine W_reg (l := [⟨some 370, Op.binOp BinOp.lss 3 (Operand.tmp 369) (Operand.tmp 368) 3, 0, none⟩]) (by kernel_rfl) (by kernel_rfl) ?_
  refine TL_q rfl (QV_lss rfl rfl) ?_
  refine TL_nil ?_
  refine W_seq (by kernel_rfl) ?_
  refine W_cond (c := Operand.tmp 370) (by kernel_rfl) rfl (fun hc370 => ?_) (fun hc370 => ?_)
  ·
    have hi2 : i < S.lost.length := by have := of_decide_eq_true hc370; omega
    have hrl1 := h1.m.rl
    rw [hlo] at hrl1
    obtain ⟨lg, rfl, hlcell⟩ := hrl1.cells hi2
    obtain ⟨a, haE⟩ : ∃ a, S.lost.getD i 0 = a := ⟨_, rfl⟩
    have hlcell := hlcell i hi2
    rw [haE] at hlcell
    have ha : a < n := hn1 a (by rw [hlo]; exact haE ▸ getD_mem 0 hi2)
    have hi3 : i < S1.lost.length := by rw [hlo]; exact hi2
    have hd1 := hD1 S1 fd1 i hqd hi3
    have hd2 := hD2 S1 fd1 i hqd hi3
    rw [hlo, haE] at hd1 hd2
    refine W_skip (by kernel_rfl) ?_
    refine W_seq (by kernel_rfl) ?_
    refine W_block 15 (by kernel_rfl) ?_
    refine W_seq (by kernel_rfl) ?_
    -- R54
    refine W_reg (l := [⟨some 371, Op.indexAddr 27 (Operand.tmp 367) (Operand.tmp 369), 0, none⟩, ⟨some 372, Op.load 3 (Operand.tmp 371), 3, none⟩, ⟨some 24, Op.assign (Operand.tmp 372), 3, none⟩]) (by kernel_rfl) (by kernel_rfl) ?_
    refine TL_q rfl (QV_idx1 rfl rfl el27 sz3 (hi2)) ?_
    refine TL_q rfl (QV_load rfl one3 (hlcell)) ?_
    refine TL_q rfl (QV_assign rfl) ?_
    refine TL_nil ?_
    refine W_seq (by kernel_rfl) ?_
    -- R55
    refine W_reg (l := [⟨some 373, Op.move (Operand.tmp 0), 25, none⟩, ⟨some 374, Op.nilCheck (Operand.tmp 373), 0, none⟩, ⟨some 375, Op.fieldAddr 61 (Operand.tmp 374) 4, 0, none⟩, ⟨some 376, Op.load 47 (Operand.tmp 375), 47, none⟩, ⟨some 377, Op.move (Operand.tmp 24), 3, none⟩, ⟨some 378, Op.indexAddr 47 (Operand.tmp 376) (Operand.tmp 377), 0, none⟩, ⟨some 379, Op.load 45 (Operand.tmp 378), 45, none⟩, ⟨some 380, Op.binOp BinOp.eql 45 (Operand.tmp 379) (Operand.const (Value.int IntKind.i8 1)) 45, 4, none⟩, ⟨some 381, Op.move (Operand.tmp 380), 4, none⟩, ⟨some 382, Op.move (Operand.tmp 0), 25, some (8, true)⟩, ⟨some 383, Op.nilCheck (Operand.tmp 382), 0, some (8, true)⟩, ⟨some 384, Op.fieldAddr 61 (Operand.tmp 383) 7, 0, some (8, true)⟩, ⟨some 385, Op.load 27 (Operand.tmp 384), 27, some (8, true)⟩, ⟨some 386, Op.move (Operand.tmp 24), 3, some (8, true)⟩, ⟨some 387, Op.indexAddr 27 (Operand.tmp 385) (Operand.tmp 386), 0, some (8, true)⟩, ⟨some 388, Op.load 3 (Operand.tmp 387), 3, some (8, true)⟩, ⟨some 389, Op.binOp BinOp.lss 3 (Operand.tmp 388) (Operand.const (Value.int IntKind.i64 0)) 3, 4, some (8, true)⟩, ⟨some 390, Op.pick (Operand.tmp 381) (Operand.tmp 389) (Operand.const (Value.bool false)), 4, none⟩]) (by kernel_rfl) (by kernel_rfl) ?_
    refine TL_q rfl (QV_move rfl) ?_
    refine TL_q rfl (QV_nil rfl) ?_
    refine TL_q rfl (QV_field rfl fld61_4) ?_
    refine TL_q rfl (QV_load rfl one47 (h1.m.c.c4)) ?_
    refine TL_q rfl (QV_move rfl) ?_
    refine TL_q rfl (QV_idx1 rfl rfl el47 sz45 (ha)) ?_
    refine TL_q rfl (QV_load rfl one45 (h1.m.c.bval.c8 (by rw [h1.m.c.nval]; exact ha))) ?_
    refine TL_q rfl (QV_eql rfl rfl) ?_
    refine TL_q rfl (QV_move rfl) ?_
    refine TL_cases (t := 381) rfl (fun hb381 => ?_) (fun hb381 => ?_)
    ·
      have k1 := of_decide_eq_true hb381
      refine TL_gq rfl rfl rfl rfl (QV_move rfl) ?_
      refine TL_gq rfl rfl rfl rfl (QV_nil rfl) ?_
      refine TL_gq rfl rfl rfl rfl (QV_field rfl fld61_7) ?_
      refine TL_gq rfl rfl rfl rfl (QV_load rfl one27 (h1.m.c.c7)) ?_
      refine TL_gq rfl rfl rfl rfl (QV_move rfl) ?_
      refine TL_gq rfl rfl rfl rfl (QV_idx1 rfl rfl el27 sz3 (ha)) ?_
      refine TL_gq rfl rfl rfl rfl (QV_load rfl one3 (h1.m.c.bsource.cI (by rw [h1.m.c.nsource]; exact ha))) ?_
      refine TL_gq rfl rfl rfl rfl (QV_lss rfl rfl) ?_
      refine TL_q rfl (QV_pickT rfl rfl) ?_
      refine TL_nil ?_
      refine W_cond (c := Operand.tmp 390) (by kernel_rfl) rfl (fun hc390 => ?_) (fun hc390 => ?_)
      ·
        have hqf := hd2 ⟨k1, of_decide_eq_true hc390⟩
        refine W_seq (by kernel_rfl) ?_
        -- R56
        refine W_reg (l := [⟨some 391, Op.move (Operand.tmp 0), 25, none⟩, ⟨some 392, Op.move (Operand.tmp 24), 3, none⟩, ⟨some 393, Op.call { callee := Callee.value (Operand.func 43), args := #[Operand.tmp 391, Operand.tmp 392, Operand.const (Value.int IntKind.i8 0)], argTypes := #[25, 3, 45] }, 0, none⟩]) (by kernel_rfl) (by kernel_rfl) ?_
        refine TL_q rfl (QV_move rfl) ?_
        refine TL_q rfl (QV_move rfl) ?_
        refine TL_e (EV_callD rfl rfl rfl call43 (decideWalk w1 L n D _ Prot _ _ h1.self a ha 0 hn2) fun r2 w2 hr2 => ?_)
        obtain ⟨rfl, qv2, h2⟩ := hr2
        have hlo2 : (decideF S1 a 0).lost = S.lost := by rw [← hlo]; unfold decideF; split <;> rfl
        refine TL_nil ?_
        -- R57
        refine W_reg (l := [⟨some 22, Op.assign (Operand.const (Value.bool true)), 4, none⟩]) (by kernel_rfl) (by kernel_rfl) ?_
        refine TL_q rfl (QV_assign rfl) ?_
        refine TL_nil ?_
        -- R58
        refine W_reg (l := [⟨some 394, Op.binOp BinOp.add 3 (Operand.tmp 369) (Operand.const (Value.int IntKind.i64 1)) 3, 3, none⟩, ⟨some 369, Op.move (Operand.tmp 394), 3, none⟩]) (by kernel_rfl) (by kernel_rfl) ?_
        refine TL_q rfl (QV_add (r := ((i + 1 : Nat) : Int)) rfl rfl (by omega) (by omega) (by omega)) ?_
        refine TL_q rfl (QV_move rfl) ?_
        refine TL_nil ?_
        first
          | exact ⟨(i + 1, ⟨_, .slice (some ⟨lg, 0, none⟩) S.lost.length lc, qv2⟩, true), ⟨by omega, hqf, hlo2, h1.after h2⟩, ⟨rfl, rfl, rfl, rfl, rfl, rfl, trivial⟩, by show S.lost.length - (i + 1) < S.lost.length - i; omega⟩
          | exact ⟨(i + 1, ⟨S1, .slice (some ⟨lg, 0, none⟩) S.lost.length lc, qv1⟩, fd1), ⟨by omega, hqe, hlo, h1⟩, ⟨rfl, rfl, rfl, rfl, rfl, rfl, trivial⟩, by show S.lost.length - (i + 1) < S.lost.length - i; omega⟩
      ·
        have hqe := hd1 (fun e => of_decide_eq_false hc390 e.2)
        refine W_skip (by kernel_rfl) ?_
        -- R58
        refine W_reg (l := [⟨some 394, Op.binOp BinOp.add 3 (Operand.tmp 369) (Operand.const (Value.int IntKind.i64 1)) 3, 3, none⟩, ⟨some 369, Op.move (Operand.tmp 394), 3, none⟩]) (by kernel_rfl) (by kernel_rfl) ?_
        refine TL_q rfl (QV_add (r := ((i + 1 : Nat) : Int)) rfl rfl (by omega) (by omega) (by omega)) ?_
        refine TL_q rfl (QV_move rfl) ?_
        refine TL_nil ?_
        first
          | exact ⟨(i + 1, ⟨_, .slice (some ⟨lg, 0, none⟩) S.lost.length lc, qv2⟩, true), ⟨by omega, hqf, hlo2, h1.after h2⟩, ⟨rfl, rfl, rfl, rfl, rfl, rfl, trivial⟩, by show S.lost.length - (i + 1) < S.lost.length - i; omega⟩
          | exact ⟨(i + 1, ⟨S1, .slice (some ⟨lg, 0, none⟩) S.lost.length lc, qv1⟩, fd1), ⟨by omega, hqe, hlo, h1⟩, ⟨rfl, rfl, rfl, rfl, rfl, rfl, trivial⟩, by show S.lost.length - (i + 1) < S.lost.length - i; omega⟩
    ·
      have hqe := hd1 (fun e => of_decide_eq_false hb381 e.1)
      refine TL_gs rfl rfl rfl rfl ?_
      refine TL_gs rfl rfl rfl rfl ?_
      refine TL_gs rfl rfl rfl rfl ?_
      refine TL_gs rfl rfl rfl rfl ?_
      refine TL_gs rfl rfl rfl rfl ?_
      refine TL_gs rfl rfl rfl rfl ?_
      refine TL_gs rfl rfl rfl rfl ?_
      refine TL_gs rfl rfl rfl rfl ?_
      refine TL_q rfl (QV_pickF rfl rfl) ?_
      refine TL_nil ?_
      refine W_condF (c := Operand.tmp 390) (by kernel_rfl) rfl ?_
      refine W_skip (by kernel_rfl) ?_
      -- R58
      refine W_reg (l := [⟨some 394, Op.binOp BinOp.add 3 (Operand.tmp 369) (Operand.const (Value.int IntKind.i64 1)) 3, 3, none⟩, ⟨some 369, Op.move (Operand.tmp 394), 3, none⟩]) (by kernel_rfl) (by kernel_rfl) ?_
      refine TL_q rfl (QV_add (r := ((i + 1 : Nat) : Int)) rfl rfl (by omega) (by omega) (by omega)) ?_
      refine TL_q rfl (QV_move rfl) ?_
      refine TL_nil ?_
      first
        | exact ⟨(i + 1, ⟨_, .slice (some ⟨lg, 0, none⟩) S.lost.length lc, qv2⟩, true), ⟨by omega, hqf, hlo2, h1.after h2⟩, ⟨rfl, rfl, rfl, rfl, rfl, rfl, trivial⟩, by show S.lost.length - (i + 1) < S.lost.length - i; omega⟩
        | exact ⟨(i + 1, ⟨S1, .slice (some ⟨lg, 0, none⟩) S.lost.length lc, qv1⟩, fd1), ⟨by omega, hqe, hlo, h1⟩, ⟨rfl, rfl, rfl, rfl, rfl, rfl, trivial⟩, by show S.lost.length - (i + 1) < S.lost.length - i; omega⟩
  ·
    have hie : i = S.lost.length := by have := of_decide_eq_false hc370; omega
    refine W_exit 14 (by kernel_rfl) ?_
    exact hk _ _ S1 qv1 fd1 ⟨rfl, rfl, rfl, trivial⟩ (by rw [← hie]; exact hqd) hlo h1

end Go.Proofs.Qxb6600121a
