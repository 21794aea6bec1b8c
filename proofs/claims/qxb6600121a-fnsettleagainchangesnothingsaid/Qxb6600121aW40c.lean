/-
   Walks written by program (wip/gen).
-/
import Derived.Test.Qxb6600121aW40b
namespace Go.Proofs.Qxb6600121a
open Go Go.Proofs
set_option linter.unusedVariables false
set_option linter.unusedSimpArgs false

def decN (S : SS) (u : Nat) : SS := { S with need := S.need.set u (S.need.getD u 0 - 1) }
set_option maxRecDepth 10000 in
set_option maxHeartbeats 2000000 in
theorem phase3 (w : World) (L : Lay) (n : Nat) (D : List Rl) (S : SS) (Prot : Nat → Prop) (lv qv rv : Value) (rd : List Nat) (h : SMR w w L n D S Prot lv qv rv rd) (hok : Okay n D) (hl : D.length + tot (D.map Rl.rd) ≤ 1048576) (hn : n ≤ 65536) (part : Nat) (QC : SS → List Nat → List Nat → Prop)
    (hCn : ∀ S rd us, QC S rd us → rd.length ≤ 1000000000000 ∧ ∀ r, r < D.length → -1000000000000 ≤ S.need.getD r 0 ∧ S.need.getD r 0 ≤ 1000000000000)
    (hC0 : ∀ S rd r, QC S (rd ++ [r]) [] → r < D.length ∧ (0 ≤ S.source.getD (D.getD r rl0).head 0 → QC S rd []) ∧ (S.source.getD (D.getD r rl0).head 0 < 0 → QC { S with source := S.source.set (D.getD r rl0).head (r : Int) } rd ((idxU D n D.length).getD (D.getD r rl0).head [])))
    (hC1 : ∀ S rd u us, QC S rd (u :: us) → (S.part.getD (D.getD u rl0).head 0 ≠ (part : Int) ∨ S.closed.getD u false = true ∨ S.val.getD (D.getD u rl0).head 0 ≠ 1 ∨ 0 ≤ S.source.getD (D.getD u rl0).head 0) → QC S rd us)
    (hC2 : ∀ S rd u us, QC S rd (u :: us) → ¬ (S.part.getD (D.getD u rl0).head 0 ≠ (part : Int) ∨ S.closed.getD u false = true ∨ S.val.getD (D.getD u rl0).head 0 ≠ 1 ∨ 0 ≤ S.source.getD (D.getD u rl0).head 0) → QC (decN S u) (if S.need.getD u 0 - 1 = 0 then rd ++ [u] else rd) us) (h0 : QC S rd []) (k : Ks)
    (hk : ∀ E' w' S' rv', SubE [(0, .pointer (some ⟨L.s + 9, 0, none⟩)), (1, .int .i64 (part : Int)), (10, rv')] E' → QC S' [] [] → SMR w w' L n D S' Prot lv qv rv' [] → k.nrm E' w') :
    T Try.prog 404 (C Try.f40 [0, 1, 1, 1, 1, 1]) [(0, .pointer (some ⟨L.s + 9, 0, none⟩)), (1, .int .i64 (part : Int)), (10, rv)] w k := by
  obtain ⟨tb, htbv, htbB, htab⟩ := h.c.stat.us
  refine W_block 10 (by kernel_rfl) ?_
  refine W_loop (ι := RS2) (fun i w1 => QC i.S i.rd [] ∧ SMR w w1 L n D i.S Prot lv qv i.rv i.rd) (fun i => [(0, .pointer (some ⟨L.s + 9, 0, none⟩)), (1, .int .i64 (part : Int)), (10, i.rv)]) (fun i => (n - cS i.S.source) * 2000000 + i.rd.length) ⟨S, rv, rd⟩ (by kernel_rfl) ?_ ?_ ?_
  · exact ⟨h0, h⟩
  · exact ⟨rfl, rfl, rfl, trivial⟩
  rintro ⟨S1, rv1, rd1⟩ w1 ⟨hqc, h1⟩
  dsimp only at hqc h1 ⊢
  obtain ⟨ra, rc, rfl, hrc⟩ := h1.rr.form
  have hn1 := (hCn _ _ _ hqc).1
  refine W_seq (by kernel_rfl) ?_
  refine W_seq (by kernel_rfl) ?_
  -- R35
  refine W_reg (l := [⟨some 237, Op.move (Operand.tmp 10), 27, none⟩, ⟨some 238, Op.call { callee := Callee.builtin Builtin.len, args := #[Operand.tmp 237], argTypes := #[27] }, 3, none⟩, ⟨some 239, Op.binOp BinOp.gtr 3 (Operand.tmp 238) (Operand.const (Value.int IntKind.i64 0)) 3, 4, none⟩]) (by kernel_rfl) (by kernel_rfl) ?_
  refine TL_q rfl (QV_move rfl) ?_
  refine TL_q rfl (QV_len rfl el27) ?_
  refine TL_q rfl (QV_gtr rfl rfl) ?_
  refine TL_nil ?_
  refine W_cond (c := Operand.tmp 239) (by kernel_rfl) rfl (fun hc239 => ?_) (fun hc239 => ?_)
  ·
    have hpos : 0 < rd1.length := by have := of_decide_eq_true hc239; omega
    obtain ⟨q, r, hqr⟩ := eq_snoc hpos
    subst hqr
    have hql : (q ++ [r]).length = q.length + 1 := by simp
    have h1b := h1
    have hrr := h1.rr
    rw [hql] at h1b hrr
    obtain ⟨sg, rfl, hsc2, htop⟩ := hrr.last
    have h2 := h1b.popR
    obtain ⟨hr, hCa, hCb⟩ := hC0 S1 q r hqc
    have hoks := hok _ (getD_mem rl0 hr)
    have hcs := cS_le S1.source
    rw [h1.c.nsource] at hcs
    refine W_skip (by kernel_rfl) ?_
    refine W_block 11 (by kernel_rfl) ?_
    refine W_seq (by kernel_rfl) ?_
    -- R36
    refine W_reg (l := [⟨some 240, Op.move (Operand.tmp 10), 27, none⟩, ⟨some 241, Op.move (Operand.tmp 10), 27, none⟩, ⟨some 242, Op.call { callee := Callee.builtin Builtin.len, args := #[Operand.tmp 241], argTypes := #[27] }, 3, none⟩, ⟨some 243, Op.binOp BinOp.sub 3 (Operand.tmp 242) (Operand.const (Value.int IntKind.i64 1)) 3, 3, none⟩, ⟨some 244, Op.indexAddr 27 (Operand.tmp 240) (Operand.tmp 243), 0, none⟩, ⟨some 245, Op.load 3 (Operand.tmp 244), 3, none⟩, ⟨some 17, Op.assign (Operand.tmp 245), 3, none⟩]) (by kernel_rfl) (by kernel_rfl) ?_
    refine TL_q rfl (QV_move rfl) ?_
    refine TL_q rfl (QV_move rfl) ?_
    refine TL_q rfl (QV_len rfl el27) ?_
    refine TL_q rfl (QV_sub (r := ((q.length : Nat) : Int)) rfl rfl (by omega) (by omega) (by omega)) ?_
    refine TL_q rfl (QV_idx1 rfl rfl el27 sz3 (by omega)) ?_
    refine TL_q rfl (QV_load rfl one3 (htop)) ?_
    refine TL_q rfl (QV_assign rfl) ?_
    refine TL_nil ?_
    refine W_seq (by kernel_rfl) ?_
    -- R37
    refine W_reg (l := [⟨some 246, Op.move (Operand.tmp 10), 27, none⟩, ⟨some 247, Op.move (Operand.tmp 10), 27, none⟩, ⟨some 248, Op.call { callee := Callee.builtin Builtin.len, args := #[Operand.tmp 247], argTypes := #[27] }, 3, none⟩, ⟨some 249, Op.binOp BinOp.sub 3 (Operand.tmp 248) (Operand.const (Value.int IntKind.i64 1)) 3, 3, none⟩, ⟨some 250, Op.slice 27 (Operand.tmp 246) none (some (Operand.tmp 249)) none, 27, none⟩, ⟨some 10, Op.assign (Operand.tmp 250), 27, none⟩]) (by kernel_rfl) (by kernel_rfl) ?_
    refine TL_q rfl (QV_move rfl) ?_
    refine TL_q rfl (QV_move rfl) ?_
    refine TL_q rfl (QV_len rfl el27) ?_
    refine TL_q rfl (QV_sub (r := ((q.length : Nat) : Int)) rfl rfl (by omega) (by omega) (by omega)) ?_
    refine TL_q rfl (QV_sliceTo rfl rfl el27 sz3 (by omega)) ?_
    refine TL_q rfl (QV_assign rfl) ?_
    refine TL_nil ?_
    refine W_seq (by kernel_rfl) ?_
    -- R38
    refine W_reg (l := [⟨some 251, Op.move (Operand.tmp 0), 25, none⟩, ⟨some 252, Op.nilCheck (Operand.tmp 251), 0, none⟩, ⟨some 253, Op.fieldAddr 61 (Operand.tmp 252) 0, 0, none⟩, ⟨some 254, Op.load 59 (Operand.tmp 253), 59, none⟩, ⟨some 255, Op.nilCheck (Operand.tmp 254), 0, none⟩, ⟨some 256, Op.fieldAddr 65 (Operand.tmp 255) 1, 0, none⟩, ⟨some 257, Op.load 53 (Operand.tmp 256), 53, none⟩, ⟨some 258, Op.move (Operand.tmp 17), 3, none⟩, ⟨some 259, Op.indexAddr 53 (Operand.tmp 257) (Operand.tmp 258), 0, none⟩, ⟨some 260, Op.fieldAddr 54 (Operand.tmp 259) 0, 0, none⟩, ⟨some 261, Op.load 3 (Operand.tmp 260), 3, none⟩, ⟨some 18, Op.assign (Operand.tmp 261), 3, none⟩]) (by kernel_rfl) (by kernel_rfl) ?_
    refine TL_q rfl (QV_move rfl) ?_
    refine TL_q rfl (QV_nil rfl) ?_
    refine TL_q rfl (QV_field0 rfl fld61_0) ?_
    refine TL_q rfl (QV_load rfl one59 (h2.c.c0)) ?_
    refine TL_q rfl (QV_nil rfl) ?_
    refine TL_q rfl (QV_field rfl fld65_1) ?_
    refine TL_q rfl (QV_load rfl one53 (h2.c.stat.r1)) ?_
    refine TL_q rfl (QV_move rfl) ?_
    refine TL_q rfl (QV_idx rfl rfl el53 sz54 (hr)) ?_
    refine TL_q rfl (QV_field0 rfl fld54_0) ?_
    refine TL_q rfl (QV_load rfl one3 (h2.c.stat.ruleH hr)) ?_
    refine TL_q rfl (QV_assign rfl) ?_
    refine TL_nil ?_
    refine W_seq (by kernel_rfl) ?_
    refine W_seq (by kernel_rfl) ?_
    -- R39
    refine W_reg (l := [⟨some 262, Op.move (Operand.tmp 0), 25, none⟩, ⟨some 263, Op.nilCheck (Operand.tmp 262), 0, none⟩, ⟨some 264, Op.fieldAddr 61 (Operand.tmp 263) 7, 0, none⟩, ⟨some 265, Op.load 27 (Operand.tmp 264), 27, none⟩, ⟨some 266, Op.move (Operand.tmp 18), 3, none⟩, ⟨some 267, Op.indexAddr 27 (Operand.tmp 265) (Operand.tmp 266), 0, none⟩, ⟨some 268, Op.load 3 (Operand.tmp 267), 3, none⟩, ⟨some 269, Op.binOp BinOp.geq 3 (Operand.tmp 268) (Operand.const (Value.int IntKind.i64 0)) 3, 4, none⟩]) (by kernel_rfl) (by kernel_rfl) ?_
    refine TL_q rfl (QV_move rfl) ?_
    refine TL_q rfl (QV_nil rfl) ?_
    refine TL_q rfl (QV_field rfl fld61_7) ?_
    refine TL_q rfl (QV_load rfl one27 (h2.c.c7)) ?_
    refine TL_q rfl (QV_move rfl) ?_
    refine TL_q rfl (QV_idx1 rfl rfl el27 sz3 (hoks.1)) ?_
    refine TL_q rfl (QV_load rfl one3 (h2.c.bsource.cI (by rw [h2.c.nsource]; exact hoks.1))) ?_
    refine TL_q rfl (QV_geq rfl rfl) ?_
    refine TL_nil ?_
    refine W_cond (c := Operand.tmp 269) (by kernel_rfl) rfl (fun hc269 => ?_) (fun hc269 => ?_)
    ·
      have hqd := hCa (of_decide_eq_true hc269)
      refine W_exit 11 (by kernel_rfl) ?_
      first
        | exact ⟨⟨S2, rv2, rd2⟩, ⟨hqe, h4⟩, ⟨rfl, rfl, rfl, trivial⟩, by show (n - cS S2.source) * 2000000 + rd2.length < (n - cS S1.source) * 2000000 + (q ++ [r]).length; rw [hsrc, hcs2]; omega⟩
        | exact ⟨⟨S1, _, q⟩, ⟨hqd, h2⟩, ⟨rfl, rfl, rfl, trivial⟩, by show (n - cS S1.source) * 2000000 + q.length < (n - cS S1.source) * 2000000 + (q ++ [r]).length; omega⟩
    ·
      have hneg : S1.source.getD (D.getD r rl0).head 0 < 0 := by have := of_decide_eq_false hc269; omega
      have hqd := hCb hneg
      obtain ⟨va, hva, hints⟩ := htab _ hoks.1
      obtain ⟨qa, qc, rfl, hqc2, hrow⟩ := hints.nat
      have hsh := idxU_short D n D.length (Nat.le_refl _) (D.getD r rl0).head
      rw [show (D.map Rl.rd).take D.length = D.map Rl.rd by rw [List.take_of_length_le (by simp)]] at hsh
      have hcs2 := cS_pos S1.source (D.getD r rl0).head (r : Int) (by rw [h1.c.nsource]; exact hoks.1) hneg (by omega)
      have hcs3 := cS_le (S1.source.set (D.getD r rl0).head (r : Int))
      rw [List.length_set, h1.c.nsource] at hcs3
      refine W_skip (by kernel_rfl) ?_
      refine W_seq (by kernel_rfl) ?_
      -- R40
      refine W_reg (l := [⟨some 270, Op.move (Operand.tmp 0), 25, none⟩, ⟨some 271, Op.nilCheck (Operand.tmp 270), 0, none⟩, ⟨some 272, Op.fieldAddr 61 (Operand.tmp 271) 7, 0, none⟩, ⟨some 273, Op.load 27 (Operand.tmp 272), 27, none⟩, ⟨some 274, Op.move (Operand.tmp 18), 3, none⟩, ⟨some 275, Op.move (Operand.tmp 17), 3, none⟩, ⟨some 276, Op.indexAddr 27 (Operand.tmp 273) (Operand.tmp 274), 0, none⟩, ⟨none, Op.store 3 (Operand.tmp 276) (Operand.tmp 275), 0, none⟩]) (by kernel_rfl) (by kernel_rfl) ?_
      refine TL_q rfl (QV_move rfl) ?_
      refine TL_q rfl (QV_nil rfl) ?_
      refine TL_q rfl (QV_field rfl fld61_7) ?_
      refine TL_q rfl (QV_load rfl one27 (h2.c.c7)) ?_
      refine TL_q rfl (QV_move rfl) ?_
      refine TL_q rfl (QV_move rfl) ?_
      refine TL_q rfl (QV_idx1 rfl rfl el27 sz3 (hoks.1)) ?_
      refine TL_e (EV_store rfl rfl rfl sz3 h2.c.bsource (by rw [ints_len, h2.c.nsource]; exact hoks.1) fun w3 u3 => ?_)
      have h3 := h2.setSource u3
      have ec2 := h3.c.c2
      rw [htbv] at ec2
      have hqd : QC _ q (((idxU D n D.length).getD (D.getD r rl0).head []).drop 0) := hqd
      refine TL_nil ?_
      refine W_seq (by kernel_rfl) ?_
      -- R41
      refine W_reg (l := [⟨some 277, Op.move (Operand.tmp 0), 25, none⟩, ⟨some 278, Op.nilCheck (Operand.tmp 277), 0, none⟩, ⟨some 279, Op.fieldAddr 61 (Operand.tmp 278) 2, 0, none⟩, ⟨some 280, Op.load 34 (Operand.tmp 279), 34, none⟩, ⟨some 281, Op.move (Operand.tmp 18), 3, none⟩, ⟨some 282, Op.indexAddr 34 (Operand.tmp 280) (Operand.tmp 281), 0, none⟩, ⟨some 283, Op.load 27 (Operand.tmp 282), 27, none⟩, ⟨some 284, Op.call { callee := Callee.builtin Builtin.len, args := #[Operand.tmp 283], argTypes := #[27] }, 3, none⟩, ⟨some 285, Op.move (Operand.const (Value.int IntKind.i64 0)), 3, none⟩]) (by kernel_rfl) (by kernel_rfl) ?_
      refine TL_q rfl (QV_move rfl) ?_
      refine TL_q rfl (QV_nil rfl) ?_
      refine TL_q rfl (QV_field rfl fld61_2) ?_
      refine TL_q rfl (QV_load rfl one34 (ec2)) ?_
      refine TL_q rfl (QV_move rfl) ?_
      refine TL_q rfl (QV_idx1 rfl rfl el34 sz27 (hoks.1)) ?_
      refine TL_q rfl (QV_load rfl one27 (cel_fr hva h3.f (notFX (by omega)))) ?_
      refine TL_q rfl (QV_len rfl el27) ?_
      refine TL_q rfl (QV_move rfl) ?_
      refine TL_nil ?_
      refine W_block 12 (by kernel_rfl) ?_
      refine W_loop (ι := Nat × RS2) (fun j w4 => j.1 ≤ ((idxU D n D.length).getD (D.getD r rl0).head []).length ∧ QC j.2.S j.2.rd (((idxU D n D.length).getD (D.getD r rl0).head []).drop j.1) ∧ j.2.S.source = S1.source.set (D.getD r rl0).head (r : Int) ∧ j.2.rd.length ≤ q.length + j.1 ∧ SMR w w4 L n D j.2.S Prot lv qv j.2.rv j.2.rd) (fun j => [(0, .pointer (some ⟨L.s + 9, 0, none⟩)), (1, .int .i64 (part : Int)), (10, j.2.rv), (283, .slice qa ((idxU D n D.length).getD (D.getD r rl0).head []).length qc), (284, .int .i64 (((idxU D n D.length).getD (D.getD r rl0).head []).length : Nat)), (285, .int .i64 (j.1 : Int))]) (fun j => ((idxU D n D.length).getD (D.getD r rl0).head []).length - j.1) (0, ⟨{ S1 with source := S1.source.set (D.getD r rl0).head (r : Int) }, .slice (some ⟨sg, 0, none⟩) q.length rc, q⟩) (by kernel_rfl) ?_ ?_ ?_
      · exact ⟨Nat.zero_le _, hqd, rfl, Nat.le_refl _, h3⟩
      · exact ⟨rfl, rfl, rfl, rfl, rfl, rfl, trivial⟩
      rintro ⟨j, S2, rv2, rd2⟩ w4 ⟨hj, hqe, hsrc, hrdl, h4⟩
      dsimp only at hj hqe hsrc hrdl h4 ⊢
      refine W_seq (by kernel_rfl) ?_
      -- R42
      refine W_reg (l := [⟨some 286, Op.binOp BinOp.lss 3 (Operand.tmp 285) (Operand.tmp 284) 3, 0, none⟩]) (by kernel_rfl) (by kernel_rfl) ?_
      refine TL_q rfl (QV_lss rfl rfl) ?_
      refine TL_nil ?_
      refine W_seq (by kernel_rfl) ?_
      refine W_cond (c := Operand.tmp 286) (by kernel_rfl) rfl (fun hc286 => ?_) (fun hc286 => ?_)
      ·
        have hlt : j < ((idxU D n D.length).getD (D.getD r rl0).head []).length := by have := of_decide_eq_true hc286; omega
        obtain ⟨b1, o1, rfl, hb1, hc1⟩ := hrow (by omega)
        obtain ⟨hul, hum⟩ := (mem_idxU D n D.length (Nat.le_refl _) hok _ _).1 (getD_mem 0 hlt)
        have hhn := (hok _ (getD_mem rl0 hul)).1
        rw [drop_getD _ j 0 hlt] at hqe
        obtain ⟨hm1, hm2⟩ := hCn _ _ _ hqe
        have hm2 := hm2 _ hul
        have hs1 := hC1 _ _ _ _ hqe
        have hs2 := hC2 _ _ _ _ hqe
        refine W_skip (by kernel_rfl) ?_
        refine W_seq (by kernel_rfl) ?_
        refine W_block 13 (by kernel_rfl) ?_
        refine W_seq (by kernel_rfl) ?_
        -- R43
        refine W_reg (l := [⟨some 287, Op.indexAddr 27 (Operand.tmp 283) (Operand.tmp 285), 0, none⟩, ⟨some 288, Op.load 3 (Operand.tmp 287), 3, none⟩, ⟨some 20, Op.assign (Operand.tmp 288), 3, none⟩]) (by kernel_rfl) (by kernel_rfl) ?_
        refine TL_q rfl (QV_idxO rfl rfl el27 sz3 (hlt)) ?_
        refine TL_q rfl (QV_load rfl one3 (cel_fr (hc1 j hlt) h4.f (notFX (by omega)))) ?_
        refine TL_q rfl (QV_assign rfl) ?_
        refine TL_nil ?_
        refine W_seq (by kernel_rfl) ?_
        -- R44
        refine W_reg (l := [⟨some 289, Op.move (Operand.tmp 0), 25, none⟩, ⟨some 290, Op.nilCheck (Operand.tmp 289), 0, none⟩, ⟨some 291, Op.fieldAddr 61 (Operand.tmp 290) 0, 0, none⟩, ⟨some 292, Op.load 59 (Operand.tmp 291), 59, none⟩, ⟨some 293, Op.nilCheck (Operand.tmp 292), 0, none⟩, ⟨some 294, Op.fieldAddr 65 (Operand.tmp 293) 1, 0, none⟩, ⟨some 295, Op.load 53 (Operand.tmp 294), 53, none⟩, ⟨some 296, Op.move (Operand.tmp 20), 3, none⟩, ⟨some 297, Op.indexAddr 53 (Operand.tmp 295) (Operand.tmp 296), 0, none⟩, ⟨some 298, Op.fieldAddr 54 (Operand.tmp 297) 0, 0, none⟩, ⟨some 299, Op.load 3 (Operand.tmp 298), 3, none⟩, ⟨some 21, Op.assign (Operand.tmp 299), 3, none⟩]) (by kernel_rfl) (by kernel_rfl) ?_
        refine TL_q rfl (QV_move rfl) ?_
        refine TL_q rfl (QV_nil rfl) ?_
        refine TL_q rfl (QV_field0 rfl fld61_0) ?_
        refine TL_q rfl (QV_load rfl one59 (h4.c.c0)) ?_
        refine TL_q rfl (QV_nil rfl) ?_
        refine TL_q rfl (QV_field rfl fld65_1) ?_
        refine TL_q rfl (QV_load rfl one53 (h4.c.stat.r1)) ?_
        refine TL_q rfl (QV_move rfl) ?_
        refine TL_q rfl (QV_idx rfl rfl el53 sz54 (hul)) ?_
        refine TL_q rfl (QV_field0 rfl fld54_0) ?_
        refine TL_q rfl (QV_load rfl one3 (h4.c.stat.ruleH hul)) ?_
        refine TL_q rfl (QV_assign rfl) ?_
        refine TL_nil ?_
        refine W_seq (by kernel_rfl) ?_
        refine W_seq (by kernel_rfl) ?_
        -- R45
        refine W_reg (l := [⟨some 300, Op.move (Operand.tmp 0), 25, none⟩, ⟨some 301, Op.nilCheck (Operand.tmp 300), 0, none⟩, ⟨some 302, Op.fieldAddr 61 (Operand.tmp 301) 5, 0, none⟩, ⟨some 303, Op.load 27 (Operand.tmp 302), 27, none⟩, ⟨some 304, Op.move (Operand.tmp 21), 3, none⟩, ⟨some 305, Op.indexAddr 27 (Operand.tmp 303) (Operand.tmp 304), 0, none⟩, ⟨some 306, Op.load 3 (Operand.tmp 305), 3, none⟩, ⟨some 307, Op.move (Operand.tmp 1), 3, none⟩, ⟨some 308, Op.binOp BinOp.neq 3 (Operand.tmp 306) (Operand.tmp 307) 3, 4, none⟩, ⟨some 309, Op.move (Operand.tmp 308), 4, none⟩, ⟨some 310, Op.move (Operand.tmp 0), 25, some (9, false)⟩, ⟨some 311, Op.nilCheck (Operand.tmp 310), 0, some (9, false)⟩, ⟨some 312, Op.fieldAddr 61 (Operand.tmp 311) 11, 0, some (9, false)⟩, ⟨some 313, Op.load 37 (Operand.tmp 312), 37, some (9, false)⟩, ⟨some 314, Op.move (Operand.tmp 20), 3, some (9, false)⟩, ⟨some 315, Op.indexAddr 37 (Operand.tmp 313) (Operand.tmp 314), 0, some (9, false)⟩, ⟨some 316, Op.load 4 (Operand.tmp 315), 4, some (9, false)⟩, ⟨some 317, Op.pick (Operand.tmp 309) (Operand.const (Value.bool true)) (Operand.tmp 316), 4, none⟩, ⟨some 318, Op.move (Operand.tmp 317), 4, none⟩, ⟨some 319, Op.move (Operand.tmp 0), 25, some (18, false)⟩, ⟨some 320, Op.nilCheck (Operand.tmp 319), 0, some (18, false)⟩, ⟨some 321, Op.fieldAddr 61 (Operand.tmp 320) 4, 0, some (18, false)⟩, ⟨some 322, Op.load 47 (Operand.tmp 321), 47, some (18, false)⟩, ⟨some 323, Op.move (Operand.tmp 21), 3, some (18, false)⟩, ⟨some 324, Op.indexAddr 47 (Operand.tmp 322) (Operand.tmp 323), 0, some (18, false)⟩, ⟨some 325, Op.load 45 (Operand.tmp 324), 45, some (18, false)⟩, ⟨some 326, Op.binOp BinOp.neq 45 (Operand.tmp 325) (Operand.const (Value.int IntKind.i8 1)) 45, 4, some (18, false)⟩, ⟨some 327, Op.pick (Operand.tmp 318) (Operand.const (Value.bool true)) (Operand.tmp 326), 4, none⟩, ⟨some 328, Op.move (Operand.tmp 327), 4, none⟩, ⟨some 329, Op.move (Operand.tmp 0), 25, some (28, false)⟩, ⟨some 330, Op.nilCheck (Operand.tmp 329), 0, some (28, false)⟩, ⟨some 331, Op.fieldAddr 61 (Operand.tmp 330) 7, 0, some (28, false)⟩, ⟨some 332, Op.load 27 (Operand.tmp 331), 27, some (28, false)⟩, ⟨some 333, Op.move (Operand.tmp 21), 3, some (28, false)⟩, ⟨some 334, Op.indexAddr 27 (Operand.tmp 332) (Operand.tmp 333), 0, some (28, false)⟩, ⟨some 335, Op.load 3 (Operand.tmp 334), 3, some (28, false)⟩, ⟨some 336, Op.binOp BinOp.geq 3 (Operand.tmp 335) (Operand.const (Value.int IntKind.i64 0)) 3, 4, some (28, false)⟩, ⟨some 337, Op.pick (Operand.tmp 328) (Operand.const (Value.bool true)) (Operand.tmp 336), 4, none⟩]) (by kernel_rfl) (by kernel_rfl) ?_
        refine TL_q rfl (QV_move rfl) ?_
        refine TL_q rfl (QV_nil rfl) ?_
        refine TL_q rfl (QV_field rfl fld61_5) ?_
        refine TL_q rfl (QV_load rfl one27 (h4.c.c5)) ?_
        refine TL_q rfl (QV_move rfl) ?_
        refine TL_q rfl (QV_idx1 rfl rfl el27 sz3 (hhn)) ?_
        refine TL_q rfl (QV_load rfl one3 (h4.c.bpart.cI (by rw [h4.c.npart]; exact hhn))) ?_
        refine TL_q rfl (QV_move rfl) ?_
        refine TL_q rfl (QV_neq rfl rfl) ?_
        refine TL_q rfl (QV_move rfl) ?_
        refine TL_cases (t := 309) rfl (fun hb309 => ?_) (fun hb309 => ?_)
        ·
          have sk : S2.part.getD (D.getD (((idxU D n D.length).getD (D.getD r rl0).head []).getD j 0) rl0).head 0 ≠ (part : Int) ∨ S2.closed.getD (((idxU D n D.length).getD (D.getD r rl0).head []).getD j 0) false = true ∨ S2.val.getD (D.getD (((idxU D n D.length).getD (D.getD r rl0).head []).getD j 0) rl0).head 0 ≠ 1 ∨ 0 ≤ S2.source.getD (D.getD (((idxU D n D.length).getD (D.getD r rl0).head []).getD j 0) rl0).head 0 := .inl (of_decide_eq_true hb309)
          refine TL_gs rfl rfl rfl rfl ?_
          refine TL_gs rfl rfl rfl rfl ?_
          refine TL_gs rfl rfl rfl rfl ?_
          refine TL_gs rfl rfl rfl rfl ?_
          refine TL_gs rfl rfl rfl rfl ?_
          refine TL_gs rfl rfl rfl rfl ?_
          refine TL_gs rfl rfl rfl rfl ?_
          refine TL_q rfl (QV_pickT rfl rfl) ?_
          refine TL_q rfl (QV_move rfl) ?_
          refine TL_gs rfl rfl rfl rfl ?_
          refine TL_gs rfl rfl rfl rfl ?_
          refine TL_gs rfl rfl rfl rfl ?_
          refine TL_gs rfl rfl rfl rfl ?_
          refine TL_gs rfl rfl rfl rfl ?_
          refine TL_gs rfl rfl rfl rfl ?_
          refine TL_gs rfl rfl rfl rfl ?_
          refine TL_gs rfl rfl rfl rfl ?_
          refine TL_q rfl (QV_pickT rfl rfl) ?_
          refine TL_q rfl (QV_move rfl) ?_
          refine TL_gs rfl rfl rfl rfl ?_
          refine TL_gs rfl rfl rfl rfl ?_
          refine TL_gs rfl rfl rfl rfl ?_
          refine TL_gs rfl rfl rfl rfl ?_
          refine TL_gs rfl rfl rfl rfl ?_
          refine TL_gs rfl rfl rfl rfl ?_
          refine TL_gs rfl rfl rfl rfl ?_
          refine TL_gs rfl rfl rfl rfl ?_
          refine TL_q rfl (QV_pickT rfl rfl) ?_
          refine TL_nil ?_
          refine W_condT (c := Operand.tmp 337) (by kernel_rfl) rfl ?_
          refine W_exit 13 (by kernel_rfl) ?_
          show T Try.prog 404 (C Try.f40 [1, 1, 1, 0, 0, 1, 1, 1, 1, 1, 1, 0, 1, 0, 0, 0, 1, 1, 1, 1, 1]) _ _ _
          -- R49
          refine W_reg (l := [⟨some 359, Op.binOp BinOp.add 3 (Operand.tmp 285) (Operand.const (Value.int IntKind.i64 1)) 3, 3, none⟩, ⟨some 285, Op.move (Operand.tmp 359), 3, none⟩]) (by kernel_rfl) (by kernel_rfl) ?_
          refine TL_q rfl (QV_add (r := ((j + 1 : Nat) : Int)) rfl rfl (by omega) (by omega) (by omega)) ?_
          refine TL_q rfl (QV_move rfl) ?_
          refine TL_nil ?_
          first
            | exact ⟨(j + 1, ⟨_, v7, _⟩), ⟨by omega, hqf, hsrc, by show (rd2 ++ [(((idxU D n D.length).getD (D.getD r rl0).head []).getD j 0)]).length ≤ q.length + (j + 1); omega, h7⟩, ⟨rfl, rfl, rfl, rfl, rfl, rfl, trivial⟩, by show ((idxU D n D.length).getD (D.getD r rl0).head []).length - (j + 1) < ((idxU D n D.length).getD (D.getD r rl0).head []).length - j; omega⟩
            | exact ⟨(j + 1, ⟨_, rv2, rd2⟩), ⟨by omega, hqf, hsrc, by show rd2.length ≤ q.length + (j + 1); omega, h5⟩, ⟨rfl, rfl, rfl, rfl, rfl, rfl, trivial⟩, by show ((idxU D n D.length).getD (D.getD r rl0).head []).length - (j + 1) < ((idxU D n D.length).getD (D.getD r rl0).head []).length - j; omega⟩
            | exact ⟨(j + 1, ⟨S2, rv2, rd2⟩), ⟨by omega, hs1 sk, hsrc, by show rd2.length ≤ q.length + (j + 1); omega, h4⟩, ⟨rfl, rfl, rfl, rfl, rfl, rfl, trivial⟩, by show ((idxU D n D.length).getD (D.getD r rl0).head []).length - (j + 1) < ((idxU D n D.length).getD (D.getD r rl0).head []).length - j; omega⟩
        ·
          have n1 := of_decide_eq_false hb309
          refine TL_gq rfl rfl rfl rfl (QV_move rfl) ?_
          refine TL_gq rfl rfl rfl rfl (QV_nil rfl) ?_
          refine TL_gq rfl rfl rfl rfl (QV_field rfl fld61_11) ?_
          refine TL_gq rfl rfl rfl rfl (QV_load rfl one37 (h4.c.c11)) ?_
          refine TL_gq rfl rfl rfl rfl (QV_move rfl) ?_
          refine TL_gq rfl rfl rfl rfl (QV_idx1 rfl rfl el37 sz4 (hul)) ?_
          refine TL_gq rfl rfl rfl rfl (QV_load rfl one4 (h4.c.bclosed.cB (by rw [h4.c.nclosed]; exact hul))) ?_
          refine TL_q rfl (QV_pickF rfl rfl) ?_
          refine TL_q rfl (QV_move rfl) ?_
          refine TL_cases (t := 318) rfl (fun hb318 => ?_) (fun hb318 => ?_)
          ·
            have sk : S2.part.getD (D.getD (((idxU D n D.length).getD (D.getD r rl0).head []).getD j 0) rl0).head 0 ≠ (part : Int) ∨ S2.closed.getD (((idxU D n D.length).getD (D.getD r rl0).head []).getD j 0) false = true ∨ S2.val.getD (D.getD (((idxU D n D.length).getD (D.getD r rl0).head []).getD j 0) rl0).head 0 ≠ 1 ∨ 0 ≤ S2.source.getD (D.getD (((idxU D n D.length).getD (D.getD r rl0).head []).getD j 0) rl0).head 0 := .inr (.inl hb318)
            refine TL_gs rfl rfl rfl rfl ?_
            refine TL_gs rfl rfl rfl rfl ?_
            refine TL_gs rfl rfl rfl rfl ?_
            refine TL_gs rfl rfl rfl rfl ?_
            refine TL_gs rfl rfl rfl rfl ?_
            refine TL_gs rfl rfl rfl rfl ?_
            refine TL_gs rfl rfl rfl rfl ?_
            refine TL_gs rfl rfl rfl rfl ?_
            refine TL_q rfl (QV_pickT rfl rfl) ?_
            refine TL_q rfl (QV_move rfl) ?_
            refine TL_gs rfl rfl rfl rfl ?_
            refine TL_gs rfl rfl rfl rfl ?_
            refine TL_gs rfl rfl rfl rfl ?_
            refine TL_gs rfl rfl rfl rfl ?_
            refine TL_gs rfl rfl rfl rfl ?_
            refine TL_gs rfl rfl rfl rfl ?_
            refine TL_gs rfl rfl rfl rfl ?_
            refine TL_gs rfl rfl rfl rfl ?_
            refine TL_q rfl (QV_pickT rfl rfl) ?_
            refine TL_nil ?_
            refine W_condT (c := Operand.tmp 337) (by kernel_rfl) rfl ?_
            refine W_exit 13 (by kernel_rfl) ?_
            show T Try.prog 404 (C Try.f40 [1, 1, 1, 0, 0, 1, 1, 1, 1, 1, 1, 0, 1, 0, 0, 0, 1, 1, 1, 1, 1]) _ _ _
            -- R49
            refine W_reg (l := [⟨some 359, Op.binOp BinOp.add 3 (Operand.tmp 285) (Operand.const (Value.int IntKind.i64 1)) 3, 3, none⟩, ⟨some 285, Op.move (Operand.tmp 359), 3, none⟩]) (by kernel_rfl) (by kernel_rfl) ?_
            refine TL_q rfl (QV_add (r := ((j + 1 : Nat) : Int)) rfl rfl (by omega) (by omega) (by omega)) ?_
            refine TL_q rfl (QV_move rfl) ?_
            refine TL_nil ?_
            first
              | exact ⟨(j + 1, ⟨_, v7, _⟩), ⟨by omega, hqf, hsrc, by show (rd2 ++ [(((idxU D n D.length).getD (D.getD r rl0).head []).getD j 0)]).length ≤ q.length + (j + 1); omega, h7⟩, ⟨rfl, rfl, rfl, rfl, rfl, rfl, trivial⟩, by show ((idxU D n D.length).getD (D.getD r rl0).head []).length - (j + 1) < ((idxU D n D.length).getD (D.getD r rl0).head []).length - j; omega⟩
              | exact ⟨(j + 1, ⟨_, rv2, rd2⟩), ⟨by omega, hqf, hsrc, by show rd2.length ≤ q.length + (j + 1); omega, h5⟩, ⟨rfl, rfl, rfl, rfl, rfl, rfl, trivial⟩, by show ((idxU D n D.length).getD (D.getD r rl0).head []).length - (j + 1) < ((idxU D n D.length).getD (D.getD r rl0).head []).length - j; omega⟩
              | exact ⟨(j + 1, ⟨S2, rv2, rd2⟩), ⟨by omega, hs1 sk, hsrc, by show rd2.length ≤ q.length + (j + 1); omega, h4⟩, ⟨rfl, rfl, rfl, rfl, rfl, rfl, trivial⟩, by show ((idxU D n D.length).getD (D.getD r rl0).head []).length - (j + 1) < ((idxU D n D.length).getD (D.getD r rl0).head []).length - j; omega⟩
          ·
            have n2 := hb318
            refine TL_gq rfl rfl rfl rfl (QV_move rfl) ?_
            refine TL_gq rfl rfl rfl rfl (QV_nil rfl) ?_
            refine TL_gq rfl rfl rfl rfl (QV_field rfl fld61_4) ?_
            refine TL_gq rfl rfl rfl rfl (QV_load rfl one47 (h4.c.c4)) ?_
            refine TL_gq rfl rfl rfl rfl (QV_move rfl) ?_
            refine TL_gq rfl rfl rfl rfl (QV_idx1 rfl rfl el47 sz45 (hhn)) ?_
            refine TL_gq rfl rfl rfl rfl (QV_load rfl one45 (h4.c.bval.c8 (by rw [h4.c.nval]; exact hhn))) ?_
            refine TL_gq rfl rfl rfl rfl (QV_neq rfl rfl) ?_
            refine TL_q rfl (QV_pickF rfl rfl) ?_
            refine TL_q rfl (QV_move rfl) ?_
            refine TL_cases (t := 328) rfl (fun hb328 => ?_) (fun hb328 => ?_)
            ·
              have sk : S2.part.getD (D.getD (((idxU D n D.length).getD (D.getD r rl0).head []).getD j 0) rl0).head 0 ≠ (part : Int) ∨ S2.closed.getD (((idxU D n D.length).getD (D.getD r rl0).head []).getD j 0) false = true ∨ S2.val.getD (D.getD (((idxU D n D.length).getD (D.getD r rl0).head []).getD j 0) rl0).head 0 ≠ 1 ∨ 0 ≤ S2.source.getD (D.getD (((idxU D n D.length).getD (D.getD r rl0).head []).getD j 0) rl0).head 0 := .inr (.inr (.inl (of_decide_eq_true hb328)))
              refine TL_gs rfl rfl rfl rfl ?_
              refine TL_gs rfl rfl rfl rfl ?_
              refine TL_gs rfl rfl rfl rfl ?_
              refine TL_gs rfl rfl rfl rfl ?_
              refine TL_gs rfl rfl rfl rfl ?_
              refine TL_gs rfl rfl rfl rfl ?_
              refine TL_gs rfl rfl rfl rfl ?_
              refine TL_gs rfl rfl rfl rfl ?_
              refine TL_q rfl (QV_pickT rfl rfl) ?_
              refine TL_nil ?_
              refine W_condT (c := Operand.tmp 337) (by kernel_rfl) rfl ?_
              refine W_exit 13 (by kernel_rfl) ?_
              show T Try.prog 404 (C Try.f40 [1, 1, 1, 0, 0, 1, 1, 1, 1, 1, 1, 0, 1, 0, 0, 0, 1, 1, 1, 1, 1]) _ _ _
              -- R49
              refine W_reg (l := [⟨some 359, Op.binOp BinOp.add 3 (Operand.tmp 285) (Operand.const (Value.int IntKind.i64 1)) 3, 3, none⟩, ⟨some 285, Op.move (Operand.tmp 359), 3, none⟩]) (by kernel_rfl) (by kernel_rfl) ?_
              refine TL_q rfl (QV_add (r := ((j + 1 : Nat) : Int)) rfl rfl (by omega) (by omega) (by omega)) ?_
              refine TL_q rfl (QV_move rfl) ?_
              refine TL_nil ?_
              first
                | exact ⟨(j + 1, ⟨_, v7, _⟩), ⟨by omega, hqf, hsrc, by show (rd2 ++ [(((idxU D n D.length).getD (D.getD r rl0).head []).getD j 0)]).length ≤ q.length + (j + 1); omega, h7⟩, ⟨rfl, rfl, rfl, rfl, rfl, rfl, trivial⟩, by show ((idxU D n D.length).getD (D.getD r rl0).head []).length - (j + 1) < ((idxU D n D.length).getD (D.getD r rl0).head []).length - j; omega⟩
                | exact ⟨(j + 1, ⟨_, rv2, rd2⟩), ⟨by omega, hqf, hsrc, by show rd2.length ≤ q.length + (j + 1); omega, h5⟩, ⟨rfl, rfl, rfl, rfl, rfl, rfl, trivial⟩, by show ((idxU D n D.length).getD (D.getD r rl0).head []).length - (j + 1) < ((idxU D n D.length).getD (D.getD r rl0).head []).length - j; omega⟩
                | exact ⟨(j + 1, ⟨S2, rv2, rd2⟩), ⟨by omega, hs1 sk, hsrc, by show rd2.length ≤ q.length + (j + 1); omega, h4⟩, ⟨rfl, rfl, rfl, rfl, rfl, rfl, trivial⟩, by show ((idxU D n D.length).getD (D.getD r rl0).head []).length - (j + 1) < ((idxU D n D.length).getD (D.getD r rl0).head []).length - j; omega⟩
            ·
              have n3 := of_decide_eq_false hb328
              refine TL_gq rfl rfl rfl rfl (QV_move rfl) ?_
              refine TL_gq rfl rfl rfl rfl (QV_nil rfl) ?_
              refine TL_gq rfl rfl rfl rfl (QV_field rfl fld61_7) ?_
              refine TL_gq rfl rfl rfl rfl (QV_load rfl one27 (h4.c.c7)) ?_
              refine TL_gq rfl rfl rfl rfl (QV_move rfl) ?_
              refine TL_gq rfl rfl rfl rfl (QV_idx1 rfl rfl el27 sz3 (hhn)) ?_
              refine TL_gq rfl rfl rfl rfl (QV_load rfl one3 (h4.c.bsource.cI (by rw [h4.c.nsource]; exact hhn))) ?_
              refine TL_gq rfl rfl rfl rfl (QV_geq rfl rfl) ?_
              refine TL_q rfl (QV_pickF rfl rfl) ?_
              refine TL_nil ?_
              refine W_cond (c := Operand.tmp 337) (by kernel_rfl) rfl (fun hc337 => ?_) (fun hc337 => ?_)
              ·
                have sk : S2.part.getD (D.getD (((idxU D n D.length).getD (D.getD r rl0).head []).getD j 0) rl0).head 0 ≠ (part : Int) ∨ S2.closed.getD (((idxU D n D.length).getD (D.getD r rl0).head []).getD j 0) false = true ∨ S2.val.getD (D.getD (((idxU D n D.length).getD (D.getD r rl0).head []).getD j 0) rl0).head 0 ≠ 1 ∨ 0 ≤ S2.source.getD (D.getD (((idxU D n D.length).getD (D.getD r rl0).head []).getD j 0) rl0).head 0 := .inr (.inr (.inr (of_decide_eq_true hc337)))
                refine W_exit 13 (by kernel_rfl) ?_
                show T Try.prog 404 (C Try.f40 [1, 1, 1, 0, 0, 1, 1, 1, 1, 1, 1, 0, 1, 0, 0, 0, 1, 1, 1, 1, 1]) _ _ _
                -- R49
                refine W_reg (l := [⟨some 359, Op.binOp BinOp.add 3 (Operand.tmp 285) (Operand.const (Value.int IntKind.i64 1)) 3, 3, none⟩, ⟨some 285, Op.move (Operand.tmp 359), 3, none⟩]) (by kernel_rfl) (by kernel_rfl) ?_
                refine TL_q rfl (QV_add (r := ((j + 1 : Nat) : Int)) rfl rfl (by omega) (by omega) (by omega)) ?_
                refine TL_q rfl (QV_move rfl) ?_
                refine TL_nil ?_
                first
                  | exact ⟨(j + 1, ⟨_, v7, _⟩), ⟨by omega, hqf, hsrc, by show (rd2 ++ [(((idxU D n D.length).getD (D.getD r rl0).head []).getD j 0)]).length ≤ q.length + (j + 1); omega, h7⟩, ⟨rfl, rfl, rfl, rfl, rfl, rfl, trivial⟩, by show ((idxU D n D.length).getD (D.getD r rl0).head []).length - (j + 1) < ((idxU D n D.length).getD (D.getD r rl0).head []).length - j; omega⟩
                  | exact ⟨(j + 1, ⟨_, rv2, rd2⟩), ⟨by omega, hqf, hsrc, by show rd2.length ≤ q.length + (j + 1); omega, h5⟩, ⟨rfl, rfl, rfl, rfl, rfl, rfl, trivial⟩, by show ((idxU D n D.length).getD (D.getD r rl0).head []).length - (j + 1) < ((idxU D n D.length).getD (D.getD r rl0).head []).length - j; omega⟩
                  | exact ⟨(j + 1, ⟨S2, rv2, rd2⟩), ⟨by omega, hs1 sk, hsrc, by show rd2.length ≤ q.length + (j + 1); omega, h4⟩, ⟨rfl, rfl, rfl, rfl, rfl, rfl, trivial⟩, by show ((idxU D n D.length).getD (D.getD r rl0).head []).length - (j + 1) < ((idxU D n D.length).getD (D.getD r rl0).head []).length - j; omega⟩
              ·
                have nsk : ¬ (S2.part.getD (D.getD (((idxU D n D.length).getD (D.getD r rl0).head []).getD j 0) rl0).head 0 ≠ (part : Int) ∨ S2.closed.getD (((idxU D n D.length).getD (D.getD r rl0).head []).getD j 0) false = true ∨ S2.val.getD (D.getD (((idxU D n D.length).getD (D.getD r rl0).head []).getD j 0) rl0).head 0 ≠ 1 ∨ 0 ≤ S2.source.getD (D.getD (((idxU D n D.length).getD (D.getD r rl0).head []).getD j 0) rl0).head 0) := fun e => e.elim n1 (fun e => e.elim (fun e => by rw [n2] at e; cases e) (fun e => e.elim n3 (of_decide_eq_false hc337)))
                have hqf := hs2 nsk
                refine W_skip (by kernel_rfl) ?_
                refine W_seq (by kernel_rfl) ?_
                -- R46
                refine W_reg (l := [⟨some 338, Op.move (Operand.tmp 0), 25, none⟩, ⟨some 339, Op.nilCheck (Operand.tmp 338), 0, none⟩, ⟨some 340, Op.fieldAddr 61 (Operand.tmp 339) 12, 0, none⟩, ⟨some 341, Op.load 27 (Operand.tmp 340), 27, none⟩, ⟨some 342, Op.move (Operand.tmp 20), 3, none⟩, ⟨some 343, Op.indexAddr 27 (Operand.tmp 341) (Operand.tmp 342), 0, none⟩, ⟨some 344, Op.load 3 (Operand.tmp 343), 3, none⟩, ⟨some 345, Op.binOp BinOp.sub 3 (Operand.tmp 344) (Operand.const (Value.int IntKind.i64 1)) 3, 3, none⟩, ⟨some 346, Op.indexAddr 27 (Operand.tmp 341) (Operand.tmp 342), 0, none⟩, ⟨none, Op.store 3 (Operand.tmp 346) (Operand.tmp 345), 0, none⟩]) (by kernel_rfl) (by kernel_rfl) ?_
                refine TL_q rfl (QV_move rfl) ?_
                refine TL_q rfl (QV_nil rfl) ?_
                refine TL_q rfl (QV_field rfl fld61_12) ?_
                refine TL_q rfl (QV_load rfl one27 (h4.c.c12)) ?_
                refine TL_q rfl (QV_move rfl) ?_
                refine TL_q rfl (QV_idx1 rfl rfl el27 sz3 (hul)) ?_
                refine TL_q rfl (QV_load rfl one3 (h4.c.bneed.cI (by rw [h4.c.nneed]; exact hul))) ?_
                refine TL_q rfl (QV_sub (r := (S2.need.getD (((idxU D n D.length).getD (D.getD r rl0).head []).getD j 0) 0 - 1 : Int)) rfl rfl (by omega) (by omega) (by omega)) ?_
                refine TL_q rfl (QV_idx1 rfl rfl el27 sz3 (hul)) ?_
                refine TL_e (EV_store rfl rfl rfl sz3 h4.c.bneed (by rw [ints_len, h4.c.nneed]; exact hul) fun w5 u5 => ?_)
                have h5 : SMR w w5 L n D (decN S2 (((idxU D n D.length).getD (D.getD r rl0).head []).getD j 0)) Prot lv qv rv2 rd2 := h4.setNeed u5
                have gneed := h5.c.bneed.cI (k := (((idxU D n D.length).getD (D.getD r rl0).head []).getD j 0)) (by rw [h5.c.nneed]; exact hul)
                have en : (decN S2 (((idxU D n D.length).getD (D.getD r rl0).head []).getD j 0)).need.getD (((idxU D n D.length).getD (D.getD r rl0).head []).getD j 0) 0 = S2.need.getD (((idxU D n D.length).getD (D.getD r rl0).head []).getD j 0) 0 - 1 := getD_set_eq _ _ _ _ (by rw [h4.c.nneed]; exact hul)
                rw [en] at gneed
                refine TL_nil ?_
                refine W_seq (by kernel_rfl) ?_
                -- R47
                refine W_reg (l := [⟨some 347, Op.move (Operand.tmp 0), 25, none⟩, ⟨some 348, Op.nilCheck (Operand.tmp 347), 0, none⟩, ⟨some 349, Op.fieldAddr 61 (Operand.tmp 348) 12, 0, none⟩, ⟨some 350, Op.load 27 (Operand.tmp 349), 27, none⟩, ⟨some 351, Op.move (Operand.tmp 20), 3, none⟩, ⟨some 352, Op.indexAddr 27 (Operand.tmp 350) (Operand.tmp 351), 0, none⟩, ⟨some 353, Op.load 3 (Operand.tmp 352), 3, none⟩, ⟨some 354, Op.binOp BinOp.eql 3 (Operand.tmp 353) (Operand.const (Value.int IntKind.i64 0)) 3, 4, none⟩]) (by kernel_rfl) (by kernel_rfl) ?_
                refine TL_q rfl (QV_move rfl) ?_
                refine TL_q rfl (QV_nil rfl) ?_
                refine TL_q rfl (QV_field rfl fld61_12) ?_
                refine TL_q rfl (QV_load rfl one27 (h5.c.c12)) ?_
                refine TL_q rfl (QV_move rfl) ?_
                refine TL_q rfl (QV_idx1 rfl rfl el27 sz3 (hul)) ?_
                refine TL_q rfl (QV_load rfl one3 (gneed)) ?_
                refine TL_q rfl (QV_eql rfl rfl) ?_
                refine TL_nil ?_
                refine W_cond (c := Operand.tmp 354) (by kernel_rfl) rfl (fun hc354 => ?_) (fun hc354 => ?_)
                ·
                  have hz := of_decide_eq_true hc354
                  rw [if_pos hz] at hqf
                  obtain ⟨ra5, rc5, rfl, -⟩ := h5.rr.form
                  -- R48
                  refine W_reg (l := [⟨some 355, Op.move (Operand.tmp 10), 27, none⟩, ⟨some 356, Op.move (Operand.tmp 20), 3, none⟩, ⟨some 357, Op.buildSlice 27 1 #[(0, Operand.tmp 356)], 27, none⟩, ⟨some 358, Op.call { callee := Callee.builtin Builtin.append, args := #[Operand.tmp 355, Operand.tmp 357], argTypes := #[27, 27] }, 27, none⟩, ⟨some 10, Op.assign (Operand.tmp 358), 27, none⟩]) (by kernel_rfl) (by kernel_rfl) ?_
                  refine TL_q rfl (QV_move rfl) ?_
                  refine TL_q rfl (QV_move rfl) ?_
                  refine TL_e (EV_lit1 rfl rfl rfl el27 in3 rfl fun w6 k6 => ?_)
                  refine TL_e (EV_append rfl rfl rfl el27 in3 rfl (by decide) (h5.rr.fr k6.fr (fun _ _ h => h)) rfl (news1 k6.blk) (one1 rfl) (by omega) (by omega) fun v7 w7 hrow7 h67 hat => ?_)
                  have h7 := h5.pushR k6 hrow7 h67 hat
                  have hrl7 : (rd2 ++ [(((idxU D n D.length).getD (D.getD r rl0).head []).getD j 0)]).length = rd2.length + 1 := by simp
                  refine TL_q rfl (QV_assign rfl) ?_
                  refine TL_nil ?_
                  -- R49
                  refine W_reg (l := [⟨some 359, Op.binOp BinOp.add 3 (Operand.tmp 285) (Operand.const (Value.int IntKind.i64 1)) 3, 3, none⟩, ⟨some 285, Op.move (Operand.tmp 359), 3, none⟩]) (by kernel_rfl) (by kernel_rfl) ?_
                  refine TL_q rfl (QV_add (r := ((j + 1 : Nat) : Int)) rfl rfl (by omega) (by omega) (by omega)) ?_
                  refine TL_q rfl (QV_move rfl) ?_
                  refine TL_nil ?_
                  first
                    | exact ⟨(j + 1, ⟨_, v7, _⟩), ⟨by omega, hqf, hsrc, by show (rd2 ++ [(((idxU D n D.length).getD (D.getD r rl0).head []).getD j 0)]).length ≤ q.length + (j + 1); omega, h7⟩, ⟨rfl, rfl, rfl, rfl, rfl, rfl, trivial⟩, by show ((idxU D n D.length).getD (D.getD r rl0).head []).length - (j + 1) < ((idxU D n D.length).getD (D.getD r rl0).head []).length - j; omega⟩
                    | exact ⟨(j + 1, ⟨_, rv2, rd2⟩), ⟨by omega, hqf, hsrc, by show rd2.length ≤ q.length + (j + 1); omega, h5⟩, ⟨rfl, rfl, rfl, rfl, rfl, rfl, trivial⟩, by show ((idxU D n D.length).getD (D.getD r rl0).head []).length - (j + 1) < ((idxU D n D.length).getD (D.getD r rl0).head []).length - j; omega⟩
                    | exact ⟨(j + 1, ⟨S2, rv2, rd2⟩), ⟨by omega, hs1 sk, hsrc, by show rd2.length ≤ q.length + (j + 1); omega, h4⟩, ⟨rfl, rfl, rfl, rfl, rfl, rfl, trivial⟩, by show ((idxU D n D.length).getD (D.getD r rl0).head []).length - (j + 1) < ((idxU D n D.length).getD (D.getD r rl0).head []).length - j; omega⟩
                ·
                  have hz := of_decide_eq_false hc354
                  rw [if_neg hz] at hqf
                  refine W_skip (by kernel_rfl) ?_
                  -- R49
                  refine W_reg (l := [⟨some 359, Op.binOp BinOp.add 3 (Operand.tmp 285) (Operand.const (Value.int IntKind.i64 1)) 3, 3, none⟩, ⟨some 285, Op.move (Operand.tmp 359), 3, none⟩]) (by kernel_rfl) (by kernel_rfl) ?_
                  refine TL_q rfl (QV_add (r := ((j + 1 : Nat) : Int)) rfl rfl (by omega) (by omega) (by omega)) ?_
                  refine TL_q rfl (QV_move rfl) ?_
                  refine TL_nil ?_
                  first
                    | exact ⟨(j + 1, ⟨_, v7, _⟩), ⟨by omega, hqf, hsrc, by show (rd2 ++ [(((idxU D n D.length).getD (D.getD r rl0).head []).getD j 0)]).length ≤ q.length + (j + 1); omega, h7⟩, ⟨rfl, rfl, rfl, rfl, rfl, rfl, trivial⟩, by show ((idxU D n D.length).getD (D.getD r rl0).head []).length - (j + 1) < ((idxU D n D.length).getD (D.getD r rl0).head []).length - j; omega⟩
                    | exact ⟨(j + 1, ⟨_, rv2, rd2⟩), ⟨by omega, hqf, hsrc, by show rd2.length ≤ q.length + (j + 1); omega, h5⟩, ⟨rfl, rfl, rfl, rfl, rfl, rfl, trivial⟩, by show ((idxU D n D.length).getD (D.getD r rl0).head []).length - (j + 1) < ((idxU D n D.length).getD (D.getD r rl0).head []).length - j; omega⟩
                    | exact ⟨(j + 1, ⟨S2, rv2, rd2⟩), ⟨by omega, hs1 sk, hsrc, by show rd2.length ≤ q.length + (j + 1); omega, h4⟩, ⟨rfl, rfl, rfl, rfl, rfl, rfl, trivial⟩, by show ((idxU D n D.length).getD (D.getD r rl0).head []).length - (j + 1) < ((idxU D n D.length).getD (D.getD r rl0).head []).length - j; omega⟩
      ·
        have hje : j = ((idxU D n D.length).getD (D.getD r rl0).head []).length := by have := of_decide_eq_false hc286; omega
        subst hje
        rw [List.drop_length] at hqe
        refine W_exit 12 (by kernel_rfl) ?_
        first
          | exact ⟨⟨S2, rv2, rd2⟩, ⟨hqe, h4⟩, ⟨rfl, rfl, rfl, trivial⟩, by show (n - cS S2.source) * 2000000 + rd2.length < (n - cS S1.source) * 2000000 + (q ++ [r]).length; rw [hsrc, hcs2]; omega⟩
          | exact ⟨⟨S1, _, q⟩, ⟨hqd, h2⟩, ⟨rfl, rfl, rfl, trivial⟩, by show (n - cS S1.source) * 2000000 + q.length < (n - cS S1.source) * 2000000 + (q ++ [r]).length; omega⟩
  ·
    have hnil : rd1 = [] := by have := of_decide_eq_false hc239; exact List.length_eq_zero_iff.1 (by omega)
    subst hnil
    refine W_exit 10 (by kernel_rfl) ?_
    exact hk _ _ S1 _ ⟨rfl, rfl, rfl, trivial⟩ hqc h1

end Go.Proofs.Qxb6600121a
