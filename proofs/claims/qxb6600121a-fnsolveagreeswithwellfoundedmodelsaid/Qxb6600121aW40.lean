/-
   Walks written by program (wip/gen).
-/
import Derived.Test.Qxb6600121aW40d
namespace Go.Proofs.Qxb6600121a
open Go Go.Proofs
set_option linter.unusedVariables false
set_option linter.unusedSimpArgs false

/-- What a search's four parts must keep, for its walk. -/
structure Srch (D : List Rl) (n part : Nat) (S : SS) (R : Bool → SS → Prop) where
  QA : SS → Nat → List Nat → Prop
  QB : SS → List Nat → Nat → List Nat → Prop
  QC : SS → List Nat → List Nat → Prop
  QD : SS → Bool → Nat → Prop
  h0 : QA S 0 []
  hAn : ∀ S i rs, QA S i rs → (∀ x ∈ S.lost, x < n) ∧ S.lost.length ≤ 1000000000000
  hA1 : ∀ S i, QA S i [] → i < S.lost.length → S.val.getD (S.lost.getD i 0) 0 ≠ 1 → QA S (i + 1) []
  hA2 : ∀ S i, QA S i [] → i < S.lost.length → S.val.getD (S.lost.getD i 0) 0 = 1 → QA S (i + 1) ((idxU D n D.length).getD (S.lost.getD i 0) [])
  hA3 : ∀ S i r rs, QA S i (r :: rs) → QA (los1 D part S r) i rs
  tAB : ∀ S i, QA S i [] → ¬ i < S.lost.length → S.queue = [] ∧ (-1000000000000000000 ≤ S.looked ∧ S.looked ≤ 1000000000000000000) ∧ S.lost.length ≤ 1000000000000 ∧ QB { S with looked := S.looked + (S.lost.length : Nat) } [] 0 []
  hBn : ∀ S rd i rs, QB S rd i rs → (∀ x ∈ S.lost, x < n) ∧ S.lost.length + rd.length ≤ 1000000000000
  hB1 : ∀ S rd i, QB S rd i [] → i < S.lost.length → S.val.getD (S.lost.getD i 0) 0 ≠ 1 → QB S rd (i + 1) []
  hB2 : ∀ S rd i, QB S rd i [] → i < S.lost.length → S.val.getD (S.lost.getD i 0) 0 = 1 → QB S rd (i + 1) ((idxH D n D.length).getD (S.lost.getD i 0) [])
  hB3 : ∀ S rd i r rs, QB S rd i (r :: rs) → S.closed.getD r false = true → QB S rd i rs
  hB4 : ∀ S rd i r rs, QB S rd i (r :: rs) → S.closed.getD r false = false → QB (setN D part S r) (if needs D part S r = 0 then rd ++ [r] else rd) i rs
  tBC : ∀ S rd, QB S rd S.lost.length [] → QC S rd []
  hCn : ∀ S rd us, QC S rd us → rd.length ≤ 1000000000000 ∧ ∀ r, r < D.length → -1000000000000 ≤ S.need.getD r 0 ∧ S.need.getD r 0 ≤ 1000000000000
  hC0 : ∀ S rd r, QC S (rd ++ [r]) [] → r < D.length ∧ (0 ≤ S.source.getD (D.getD r rl0).head 0 → QC S rd []) ∧ (S.source.getD (D.getD r rl0).head 0 < 0 → QC { S with source := S.source.set (D.getD r rl0).head (r : Int) } rd ((idxU D n D.length).getD (D.getD r rl0).head []))
  hC1 : ∀ S rd u us, QC S rd (u :: us) → (S.part.getD (D.getD u rl0).head 0 ≠ (part : Int) ∨ S.closed.getD u false = true ∨ S.val.getD (D.getD u rl0).head 0 ≠ 1 ∨ 0 ≤ S.source.getD (D.getD u rl0).head 0) → QC S rd us
  hC2 : ∀ S rd u us, QC S rd (u :: us) → ¬ (S.part.getD (D.getD u rl0).head 0 ≠ (part : Int) ∨ S.closed.getD u false = true ∨ S.val.getD (D.getD u rl0).head 0 ≠ 1 ∨ 0 ≤ S.source.getD (D.getD u rl0).head 0) → QC (decN S u) (if S.need.getD u 0 - 1 = 0 then rd ++ [u] else rd) us
  tCD : ∀ S, QC S [] [] → QD { S with queue := [] } false 0 ∧ S.lost.length ≤ 1000000000000
  hDn : ∀ S b i, QD S b i → (∀ x ∈ S.lost, x < n) ∧ S.queue.length ≤ 1000000000000
  hD1 : ∀ S b i, QD S b i → i < S.lost.length → ¬ (S.val.getD (S.lost.getD i 0) 0 = 1 ∧ S.source.getD (S.lost.getD i 0) 0 < 0) → QD S b (i + 1)
  hD2 : ∀ S b i, QD S b i → i < S.lost.length → (S.val.getD (S.lost.getD i 0) 0 = 1 ∧ S.source.getD (S.lost.getD i 0) 0 < 0) → QD (decideF S (S.lost.getD i 0) 0) true (i + 1)
  tD : ∀ S b, QD S b S.lost.length → R b { S with lost := [] }
set_option maxRecDepth 10000 in
set_option maxHeartbeats 2000000 in
theorem refuteWalk (w : World) (L : Lay) (n : Nat) (D : List Rl) (S : SS) (Prot : Nat → Prop) (lv qv : Value) (h : SMF w w L n D S Prot lv qv) (hok : Okay n D) (hl : D.length + tot (D.map Rl.rd) ≤ 1048576) (hn : n ≤ 65536) (part : Nat) (R : Bool → SS → Prop) (X : Srch D n part S R) :
    CallsS Try.prog 40 #[.pointer (some ⟨L.s + 9, 0, none⟩), .int .i64 (part : Int)] w (fun v w' => ∃ b, v = .bool b ∧ ∃ S' lv' qv', R b S' ∧ SMF w w' L n D S' Prot lv' qv') := by
  refine W_fun [4] Try.func40 rfl Try.ntmps40 Try.results40 (Nat.le_of_ble_eq_true rfl) ?_
  refine W_seq (by kernel_rfl) ?_
  -- R0
  refine W_reg (l := [⟨some 4, Op.assign (Operand.const (Value.bool false)), 4, none⟩]) (by kernel_rfl) (by kernel_rfl) ?_
  refine TL_q rfl (QV_assign rfl) ?_
  refine TL_nil ?_
  refine W_seq (by kernel_rfl) ?_
  refine W_seq (by kernel_rfl) ?_
  -- R1
  refine W_reg (l := [⟨some 5, Op.assign (Operand.const (Value.int IntKind.i64 0)), 3, none⟩]) (by kernel_rfl) (by kernel_rfl) ?_
  refine TL_q rfl (QV_assign rfl) ?_
  refine TL_nil ?_
  refine T.env (phase1 w L n D S Prot lv qv h hok hl hn part X.QA X.hAn X.hA1 X.hA2 X.hA3 X.h0 _ ?_) ⟨rfl, rfl, rfl, trivial⟩
  intro E1 w1 S1 lv1 qv1 i1 hsub1 hq1 hi1 h1
  refine T.env (E' := [(0, .pointer (some ⟨L.s + 9, 0, none⟩)), (1, .int .i64 (part : Int))]) ?_ hsub1
  obtain ⟨hqn, hlb, hlo1, hqb0⟩ := X.tAB S1 i1 hq1 hi1
  have hAn1 := X.hAn _ _ _ hq1
  obtain ⟨la, lc, rfl, hlc⟩ := h1.m.rl.form
  obtain ⟨qa, qc, rfl, hqc⟩ := h1.m.rq.form
  refine W_seq (by kernel_rfl) ?_
  -- R14
  refine W_regTail (l1 := [⟨some 109, Op.move (Operand.tmp 0), 25, none⟩, ⟨some 110, Op.nilCheck (Operand.tmp 109), 0, none⟩, ⟨some 111, Op.fieldAddr 61 (Operand.tmp 110) 9, 0, none⟩, ⟨some 112, Op.load 3 (Operand.tmp 111), 3, none⟩, ⟨some 113, Op.move (Operand.tmp 0), 25, none⟩, ⟨some 114, Op.nilCheck (Operand.tmp 113), 0, none⟩, ⟨some 115, Op.fieldAddr 61 (Operand.tmp 114) 8, 0, none⟩, ⟨some 116, Op.load 27 (Operand.tmp 115), 27, none⟩, ⟨some 117, Op.call { callee := Callee.builtin Builtin.len, args := #[Operand.tmp 116], argTypes := #[27] }, 3, none⟩, ⟨some 118, Op.binOp BinOp.add 3 (Operand.tmp 112) (Operand.tmp 117) 3, 3, none⟩, ⟨some 119, Op.nilCheck (Operand.tmp 109), 0, none⟩, ⟨some 120, Op.fieldAddr 61 (Operand.tmp 119) 9, 0, none⟩]) (l2 := [⟨none, Op.store 3 (Operand.tmp 120) (Operand.tmp 118), 0, none⟩]) mix (by kernel_rfl) (by kernel_rfl) (by kernel_rfl) ?_
  refine TS_q rfl (QV_move rfl) ?_
  refine TS_q rfl (QV_nil rfl) ?_
  refine TS_q rfl (QV_field rfl fld61_9) ?_
  refine TS_q rfl (QV_load rfl one3 (h1.m.c.c9)) ?_
  refine TS_q rfl (QV_move rfl) ?_
  refine TS_q rfl (QV_nil rfl) ?_
  refine TS_q rfl (QV_field rfl fld61_8) ?_
  refine TS_q rfl (QV_load rfl one27 (h1.m.c.c8)) ?_
  refine TS_q rfl (QV_len rfl el27) ?_
  refine TS_q rfl (QV_add (r := (S1.looked + (S1.lost.length : Nat) : Int)) rfl rfl (by omega) (by omega) (by omega)) ?_
  refine TS_q rfl (QV_nil rfl) ?_
  refine TS_q rfl (QV_field rfl fld61_9) ?_
  refine TS_nil ?_
  refine TL_e (EV_store rfl rfl rfl sz3 h1.m.c.sol (by simp [solCells]) fun w2 u2 => ?_)
  have h2 := h1.setLooked u2
  rw [hqn] at h2
  rw [hqn] at hqb0
  have hr2 := h2.self.ready rfl
  have ec13 : cel w2.heap (L.s + 9) 13 = some (.slice qa 0 qc) := h2.m.c.c13
  refine TL_nil ?_
  refine W_seq (by kernel_rfl) ?_
  -- R15
  refine W_reg (l := [⟨some 121, Op.move (Operand.tmp 0), 25, none⟩, ⟨some 122, Op.nilCheck (Operand.tmp 121), 0, none⟩, ⟨some 123, Op.fieldAddr 61 (Operand.tmp 122) 13, 0, none⟩, ⟨some 124, Op.load 27 (Operand.tmp 123), 27, none⟩, ⟨some 125, Op.slice 27 (Operand.tmp 124) none (some (Operand.const (Value.int IntKind.i64 0))) none, 27, none⟩, ⟨some 10, Op.assign (Operand.tmp 125), 27, none⟩]) (by kernel_rfl) (by kernel_rfl) ?_
  refine TL_q rfl (QV_move rfl) ?_
  refine TL_q rfl (QV_nil rfl) ?_
  refine TL_q rfl (QV_field rfl fld61_13) ?_
  refine TL_q rfl (QV_load rfl one27 (ec13)) ?_
  refine TL_q rfl (QV_sliceTo rfl rfl el27 sz3 (Nat.zero_le _)) ?_
  refine TL_q rfl (QV_assign rfl) ?_
  refine TL_nil ?_
  refine W_seq (by kernel_rfl) ?_
  refine W_seq (by kernel_rfl) ?_
  -- R16
  refine W_reg (l := [⟨some 126, Op.move (Operand.tmp 0), 25, none⟩, ⟨some 127, Op.nilCheck (Operand.tmp 126), 0, none⟩, ⟨some 128, Op.fieldAddr 61 (Operand.tmp 127) 8, 0, none⟩, ⟨some 129, Op.load 27 (Operand.tmp 128), 27, none⟩, ⟨some 130, Op.call { callee := Callee.builtin Builtin.len, args := #[Operand.tmp 129], argTypes := #[27] }, 3, none⟩, ⟨some 131, Op.move (Operand.const (Value.int IntKind.i64 0)), 3, none⟩]) (by kernel_rfl) (by kernel_rfl) ?_
  refine TL_q rfl (QV_move rfl) ?_
  refine TL_q rfl (QV_nil rfl) ?_
  refine TL_q rfl (QV_field rfl fld61_8) ?_
  refine TL_q rfl (QV_load rfl one27 (h2.m.c.c8)) ?_
  refine TL_q rfl (QV_len rfl el27) ?_
  refine TL_q rfl (QV_move rfl) ?_
  refine TL_nil ?_
  refine T.env (phase2 w2 L n D _ Prot la lc _ _ [] hr2 hok hl hn part X.QB X.hBn X.hB1 X.hB2 X.hB3 X.hB4 hqb0 _ ?_) ⟨rfl, rfl, rfl, rfl, rfl, rfl, trivial⟩
  intro E3 w3 S3 rv3 rd3 hsub3 hq3 hlo3 h3
  refine T.env (E' := [(0, .pointer (some ⟨L.s + 9, 0, none⟩)), (1, .int .i64 (part : Int)), (10, rv3)]) ?_ hsub3
  have hqc0 := X.tBC S3 rd3 (by rw [hlo3]; exact hq3)
  refine W_seq (by kernel_rfl) ?_
  refine T.env (phase3 w3 L n D S3 Prot _ _ rv3 rd3 h3.base hok hl hn part X.QC X.hCn X.hC0 X.hC1 X.hC2 hqc0 _ ?_) ⟨rfl, rfl, rfl, trivial⟩
  intro E4 w4 S4 rv4 hsub4 hq4 h4
  refine T.env (E' := [(0, .pointer (some ⟨L.s + 9, 0, none⟩)), (1, .int .i64 (part : Int)), (10, rv4)]) ?_ hsub4
  obtain ⟨hqd0, hlb4⟩ := X.tCD S4 hq4
  obtain ⟨ra, rc, rfl, -⟩ := h4.rr.form
  obtain ⟨la4, lc4, hlv4, -⟩ := h4.rl.form
  rw [hlv4] at h4
  refine W_seq (by kernel_rfl) ?_
  -- R50
  refine W_reg (l := [⟨some 360, Op.move (Operand.tmp 0), 25, none⟩, ⟨some 361, Op.move (Operand.tmp 10), 27, none⟩, ⟨some 362, Op.nilCheck (Operand.tmp 360), 0, none⟩, ⟨some 363, Op.fieldAddr 61 (Operand.tmp 362) 13, 0, none⟩, ⟨none, Op.store 27 (Operand.tmp 363) (Operand.tmp 361), 0, none⟩]) (by kernel_rfl) (by kernel_rfl) ?_
  refine TL_q rfl (QV_move rfl) ?_
  refine TL_q rfl (QV_move rfl) ?_
  refine TL_q rfl (QV_nil rfl) ?_
  refine TL_q rfl (QV_field rfl fld61_13) ?_
  refine TL_e (EV_store rfl rfl rfl sz27 h4.c.sol (by simp [solCells]) fun w5 u5 => ?_)
  have h5 := h4.back u5
  refine TL_nil ?_
  refine W_seq (by kernel_rfl) ?_
  -- R51
  refine W_reg (l := [⟨some 22, Op.assign (Operand.const (Value.bool false)), 4, none⟩]) (by kernel_rfl) (by kernel_rfl) ?_
  refine TL_q rfl (QV_assign rfl) ?_
  refine TL_nil ?_
  refine W_seq (by kernel_rfl) ?_
  refine W_seq (by kernel_rfl) ?_
  -- R52
  refine W_reg (l := [⟨some 364, Op.move (Operand.tmp 0), 25, none⟩, ⟨some 365, Op.nilCheck (Operand.tmp 364), 0, none⟩, ⟨some 366, Op.fieldAddr 61 (Operand.tmp 365) 8, 0, none⟩, ⟨some 367, Op.load 27 (Operand.tmp 366), 27, none⟩, ⟨some 368, Op.call { callee := Callee.builtin Builtin.len, args := #[Operand.tmp 367], argTypes := #[27] }, 3, none⟩, ⟨some 369, Op.move (Operand.const (Value.int IntKind.i64 0)), 3, none⟩]) (by kernel_rfl) (by kernel_rfl) ?_
  refine TL_q rfl (QV_move rfl) ?_
  refine TL_q rfl (QV_nil rfl) ?_
  refine TL_q rfl (QV_field rfl fld61_8) ?_
  refine TL_q rfl (QV_load rfl one27 (h5.m.c.c8)) ?_
  refine TL_q rfl (QV_len rfl el27) ?_
  refine TL_q rfl (QV_move rfl) ?_
  refine TL_nil ?_
  refine T.env (phase4 w5 L n D _ Prot la4 lc4 _ false h5.self part X.QD X.hDn X.hD1 X.hD2 hqd0 hlb4 _ ?_) ⟨rfl, rfl, rfl, rfl, rfl, rfl, trivial⟩
  intro E6 w6 S6 qv6 b6 hsub6 hq6 hlo6 h6
  refine T.env (E' := [(0, .pointer (some ⟨L.s + 9, 0, none⟩)), (1, .int .i64 (part : Int)), (22, .bool b6)]) ?_ hsub6
  have h7 : SMF w w6 L n D S6 Prot (.slice la4 S4.lost.length lc4) qv6 := ⟨h6.m, ((h2.f.trans h3.f).trans h5.f).trans h6.f, h.p⟩
  have hR := X.tD S6 b6 (by rw [hlo6]; exact hq6)
  refine W_seq (by kernel_rfl) ?_
  -- R59
  refine W_reg (l := [⟨some 395, Op.move (Operand.tmp 0), 25, none⟩, ⟨some 396, Op.move (Operand.tmp 0), 25, none⟩, ⟨some 397, Op.nilCheck (Operand.tmp 396), 0, none⟩, ⟨some 398, Op.fieldAddr 61 (Operand.tmp 397) 8, 0, none⟩, ⟨some 399, Op.load 27 (Operand.tmp 398), 27, none⟩, ⟨some 400, Op.slice 27 (Operand.tmp 399) none (some (Operand.const (Value.int IntKind.i64 0))) none, 27, none⟩, ⟨some 401, Op.nilCheck (Operand.tmp 395), 0, none⟩, ⟨some 402, Op.fieldAddr 61 (Operand.tmp 401) 8, 0, none⟩, ⟨none, Op.store 27 (Operand.tmp 402) (Operand.tmp 400), 0, none⟩]) (by kernel_rfl) (by kernel_rfl) ?_
  refine TL_q rfl (QV_move rfl) ?_
  refine TL_q rfl (QV_move rfl) ?_
  refine TL_q rfl (QV_nil rfl) ?_
  refine TL_q rfl (QV_field rfl fld61_8) ?_
  refine TL_q rfl (QV_load rfl one27 (h7.m.c.c8)) ?_
  refine TL_q rfl (QV_sliceTo rfl rfl el27 sz3 (Nat.zero_le _)) ?_
  refine TL_q rfl (QV_nil rfl) ?_
  refine TL_q rfl (QV_field rfl fld61_8) ?_
  refine TL_e (EV_store rfl rfl rfl sz27 h7.m.c.sol (by simp [solCells]) fun w8 u8 => ?_)
  have h8 := h7.setLost (xs := []) (Fr.refl (fun _ => False) w6) (fun _ h => h.elim) (by have h9 := h7.m.rl; rw [hlo6] at h9; exact h9.take (Nat.zero_le _)) (.inl (by cases la4 <;> rfl)) u8
  refine TL_nil ?_
  refine W_seq (by kernel_rfl) ?_
  -- R60
  refine W_reg (l := [⟨some 403, Op.move (Operand.tmp 22), 4, none⟩, ⟨some 4, Op.assign (Operand.tmp 403), 4, none⟩]) (by kernel_rfl) (by kernel_rfl) ?_
  refine TL_q rfl (QV_move rfl) ?_
  refine TL_q rfl (QV_assign rfl) ?_
  refine TL_nil ?_
  refine W_ret (by kernel_rfl) ?_
  exact ⟨_, rfl, b6, rfl, _, _, _, hR, h8⟩

end Go.Proofs.Qxb6600121a
