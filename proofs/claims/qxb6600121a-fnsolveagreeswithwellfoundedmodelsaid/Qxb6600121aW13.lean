/-
   Walks written by program (wip/gen).
-/
import Derived.Test.Qxb6600121aW34
namespace Go.Proofs.Qxb6600121a
open Go Go.Proofs
set_option linter.unusedVariables false
set_option linter.unusedSimpArgs false

theorem getElem?_set3 (cs : List Value) (i j : Nat) (v : Value) (h : i ≠ j) : (cs.set i v)[j]? = cs[j]? := by rw [List.getElem?_set_ne h]
/-- What lies in the clone's block. -/
def ClonedTo (h : Array Obj) (lo : Nat) (cs : List Value) (rs : List RD) (k : Nat) : Prop :=
  ∀ i, i < k → cs[i * 3]? = some (.int .i64 (rs.getD i rd0).head) ∧ ∃ va vu, cs[i * 3 + 1]? = some va ∧ cs[i * 3 + 2]? = some vu ∧
    IntsAt h (fun b => lo < b ∧ b < h.size) va (rs.getD i rd0).all ∧ IntsAt h (fun b => lo < b ∧ b < h.size) vu (rs.getD i rd0).unl
theorem ClonedTo.fr {X : Nat → Prop} {w w' : World} {lo : Nat} {cs : List Value} {rs : List RD} {k : Nat} (h : ClonedTo w.heap lo cs rs k) (hf : Fr X w w') (hX : ∀ b, lo < b → b < w.heap.size → ¬ X b) : ClonedTo w'.heap lo cs rs k := by
  intro i hi
  obtain ⟨h1, va, vu, h2, h3, h4, h5⟩ := h i hi
  have hs := hf.size
  exact ⟨h1, va, vu, h2, h3, (h4.fr hf fun b hb => hX b hb.1 hb.2).mono (fun b hb => ⟨hb.1, by omega⟩), (h5.fr hf fun b hb => hX b hb.1 hb.2).mono (fun b hb => ⟨hb.1, by omega⟩)⟩
theorem ClonedTo.set {h : Array Obj} {lo : Nat} {cs : List Value} {rs : List RD} {k : Nat} (hc : ClonedTo h lo cs rs k) (hlen : k * 3 + 2 < cs.length) (va vu : Value)
    (h4 : IntsAt h (fun b => lo < b ∧ b < h.size) va (rs.getD k rd0).all) (h5 : IntsAt h (fun b => lo < b ∧ b < h.size) vu (rs.getD k rd0).unl) :
    ClonedTo h lo (((cs.set (k * 3) (.int .i64 (rs.getD k rd0).head)).set (k * 3 + 1) va).set (k * 3 + 2) vu) rs (k + 1) := by
  refine all_succ ?_ ?_
  · intro i hi
    obtain ⟨h1, va', vu', h2, h3, h6⟩ := hc i hi
    refine ⟨?_, va', vu', ?_, ?_, h6⟩
    · rw [getElem?_set3 _ _ _ _ (by omega), getElem?_set3 _ _ _ _ (by omega), getElem?_set3 _ _ _ _ (by omega)]; exact h1
    · rw [getElem?_set3 _ _ _ _ (by omega), getElem?_set3 _ _ _ _ (by omega), getElem?_set3 _ _ _ _ (by omega)]; exact h2
    · rw [getElem?_set3 _ _ _ _ (by omega), getElem?_set3 _ _ _ _ (by omega), getElem?_set3 _ _ _ _ (by omega)]; exact h3
  · refine ⟨?_, va, vu, ?_, ?_, h4, h5⟩
    · rw [getElem?_set3 _ _ _ _ (by omega), getElem?_set3 _ _ _ _ (by omega), List.getElem?_set_self (by omega)]
    · rw [getElem?_set3 _ _ _ _ (by omega), List.getElem?_set_self (by simp; omega)]
    · rw [List.getElem?_set_self (by simp; omega)]
set_option maxRecDepth 10000 in
theorem cloneRules (w : World) (B : Nat → Prop) (v : Value) (rs : List RD) (hv : RulesAt w.heap B v rs) (hl : rs.length + tot rs ≤ 1048576) :
    CallsS Try.prog 13 #[v] w (fun r w' => Fr (fun _ => False) w w' ∧ RulesAt w'.heap (fun b => w.heap.size ≤ b ∧ b < w'.heap.size) r rs) := by
  obtain ⟨a, c, rfl, hc, hn, hp⟩ := hv
  cases a with
  | none =>
    have h0 := hn rfl
    refine W_fun [2] Try.func13 rfl Try.ntmps13 Try.results13 (Nat.le_of_ble_eq_true rfl) ?_
    refine W_seq (by kernel_rfl) ?_
    -- R0
    refine W_reg (l := [⟨some 2, Op.assign (Operand.const (Value.slice none 0 0)), 22, none⟩]) (by kernel_rfl) (by kernel_rfl) ?_
    refine TL_q rfl (QV_assign rfl) ?_
    refine TL_nil ?_
    refine W_seq (by kernel_rfl) ?_
    refine W_seq (by kernel_rfl) ?_
    -- R1
    refine W_reg (l := [⟨some 5, Op.move (Operand.tmp 0), 22, none⟩, ⟨some 6, Op.binOp BinOp.eql 22 (Operand.tmp 5) (Operand.const (Value.slice none 0 0)) 22, 4, none⟩]) (by kernel_rfl) (by kernel_rfl) ?_
    refine TL_q rfl (QV_move rfl) ?_
    refine TL_q rfl (QV_isNil rfl el22) ?_
    refine TL_nil ?_
    refine W_condT (c := Operand.tmp 6) (by kernel_rfl) rfl ?_
    refine W_seq (by kernel_rfl) ?_
    -- R2
    refine W_reg (l := [⟨some 2, Op.assign (Operand.const (Value.slice none 0 0)), 22, none⟩]) (by kernel_rfl) (by kernel_rfl) ?_
    refine TL_q rfl (QV_assign rfl) ?_
    refine TL_nil ?_
    refine W_ret (by kernel_rfl) ?_
    exact ⟨_, rfl, Fr.refl _ _, none, 0, by rw [h0], by omega, fun _ => h0, fun h => by omega⟩
  | some ad =>
    refine W_fun [2] Try.func13 rfl Try.ntmps13 Try.results13 (Nat.le_of_ble_eq_true rfl) ?_
    refine W_seq (by kernel_rfl) ?_
    -- R0
    refine W_reg (l := [⟨some 2, Op.assign (Operand.const (Value.slice none 0 0)), 22, none⟩]) (by kernel_rfl) (by kernel_rfl) ?_
    refine TL_q rfl (QV_assign rfl) ?_
    refine TL_nil ?_
    refine W_seq (by kernel_rfl) ?_
    refine W_seq (by kernel_rfl) ?_
    -- R1
    refine W_reg (l := [⟨some 5, Op.move (Operand.tmp 0), 22, none⟩, ⟨some 6, Op.binOp BinOp.eql 22 (Operand.tmp 5) (Operand.const (Value.slice none 0 0)) 22, 4, none⟩]) (by kernel_rfl) (by kernel_rfl) ?_
    refine TL_q rfl (QV_move rfl) ?_
    refine TL_q rfl (QV_isNil rfl el22) ?_
    refine TL_nil ?_
    refine W_condF (c := Operand.tmp 6) (by kernel_rfl) rfl ?_
    refine W_skip (by kernel_rfl) ?_
    refine W_seq (by kernel_rfl) ?_
    -- R3
    refine W_reg (l := [⟨some 7, Op.move (Operand.tmp 0), 22, none⟩, ⟨some 8, Op.call { callee := Callee.builtin Builtin.len, args := #[Operand.tmp 7], argTypes := #[22] }, 3, none⟩, ⟨some 9, Op.makeSlice 22 (Operand.tmp 8) (Operand.tmp 8), 22, none⟩, ⟨some 3, Op.assign (Operand.tmp 9), 22, none⟩]) (by kernel_rfl) (by kernel_rfl) ?_
    refine TL_q rfl (QV_move rfl) ?_
    refine TL_q rfl (QV_len rfl el22) ?_
    refine TL_e (EV_make3 rfl rfl rfl el22 in33 (by omega) (by omega) (by omega) fun w2 cs0 hw2 hcs0 => ?_)
    refine TL_q rfl (QV_assign rfl) ?_
    refine TL_nil ?_
    refine W_seq (by kernel_rfl) ?_
    refine W_seq (by kernel_rfl) ?_
    -- R4
    refine W_reg (l := [⟨some 4, Op.assign (Operand.const (Value.int IntKind.i64 0)), 3, none⟩]) (by kernel_rfl) (by kernel_rfl) ?_
    refine TL_q rfl (QV_assign rfl) ?_
    refine TL_nil ?_
    refine W_block 0 (by kernel_rfl) ?_
    refine W_loop (fun (k : Nat) w1 => k ≤ rs.length ∧ Fr (fun _ => False) w w1 ∧ w.heap.size < w1.heap.size ∧ ∃ cs, Blk w1.heap w.heap.size 33 cs ∧ cs.length = rs.length * 3 ∧ ClonedTo w1.heap w.heap.size cs rs k) (fun k => [(0, .slice (some ad) rs.length c), (3, .slice (some ⟨w.heap.size, 0, none⟩) rs.length rs.length), (4, .int .i64 (k : Int))]) (fun k => rs.length - k) 0 (by kernel_rfl) ?_ ?_ ?_
    · exact ⟨Nat.zero_le _, hw2.fr, by rw [hw2.size]; omega, cs0, hw2.blk, hcs0, fun i hi => by omega⟩
    · exact ⟨rfl, rfl, rfl, trivial⟩
    rintro k w1 ⟨hk, hfr, hsz, cs, hblk, hcs, hcl⟩
    refine W_seq (by kernel_rfl) ?_
    refine W_seq (by kernel_rfl) ?_
    -- R5
    refine W_reg (l := [⟨some 10, Op.move (Operand.tmp 4), 3, none⟩, ⟨some 11, Op.move (Operand.tmp 0), 22, none⟩, ⟨some 12, Op.call { callee := Callee.builtin Builtin.len, args := #[Operand.tmp 11], argTypes := #[22] }, 3, none⟩, ⟨some 13, Op.binOp BinOp.lss 3 (Operand.tmp 10) (Operand.tmp 12) 3, 4, none⟩]) (by kernel_rfl) (by kernel_rfl) ?_
    refine TL_q rfl (QV_move rfl) ?_
    refine TL_q rfl (QV_move rfl) ?_
    refine TL_q rfl (QV_len rfl el22) ?_
    refine TL_q rfl (QV_lss rfl rfl) ?_
    refine TL_nil ?_
    refine W_cond (c := Operand.tmp 13) (by kernel_rfl) rfl (fun hc13 => ?_) (fun hc13 => ?_)
    ·
      have hlt : k < rs.length := by have := of_decide_eq_true hc13; omega
      obtain ⟨b, o, hae, hbB, hcel⟩ := hp (by omega)
      cases hae
      obtain ⟨g1, va, vu, g2, g3, hva, hvu⟩ := hcel k hlt
      have hbw : b < w.heap.size := cel_lt g1
      have hsa : (rs.getD k rd0).all.length ≤ 1048576 := by have := tot_take_succ rs k hlt; have := tot_take_le rs (k + 1); omega
      have hsu : (rs.getD k rd0).unl.length ≤ 1048576 := by have := tot_take_succ rs k hlt; have := tot_take_le rs (k + 1); omega
      have hS0 : cel w1.heap b (o + k * 3) = some (.int .i64 (rs.getD k rd0).head) ∧ cel w1.heap b (o + k * 3 + 1) = some va ∧ cel w1.heap b (o + k * 3 + 2) = some vu := ⟨cel_fr g1 hfr (fun h => h), cel_fr g2 hfr (fun h => h), cel_fr g3 hfr (fun h => h)⟩
      have hva1 := hva.fr hfr (fun _ _ h => h)
      refine W_skip (by kernel_rfl) ?_
      refine W_seq (by kernel_rfl) ?_
      refine W_block 1 (by kernel_rfl) ?_
      -- R7
      refine W_regH (fun h => cel h b (o + k * 3) = some (.int .i64 (rs.getD k rd0).head) ∧ cel h b (o + k * 3 + 1) = some va ∧ cel h b (o + k * 3 + 2) = some vu) (l := [(0, true, ⟨some 16, Op.move (Operand.tmp 3), 22, none⟩), (1, true, ⟨some 17, Op.move (Operand.tmp 4), 3, none⟩), (2, true, ⟨some 18, Op.move (Operand.tmp 0), 22, none⟩), (3, true, ⟨some 19, Op.move (Operand.tmp 4), 3, none⟩), (4, true, ⟨some 20, Op.indexAddr 22 (Operand.tmp 18) (Operand.tmp 19), 0, none⟩), (5, true, ⟨some 21, Op.fieldAddr 33 (Operand.tmp 20) 0, 0, none⟩), (6, true, ⟨some 22, Op.load 3 (Operand.tmp 21), 3, none⟩), (7, true, ⟨some 23, Op.move (Operand.tmp 0), 22, none⟩), (8, true, ⟨some 24, Op.move (Operand.tmp 4), 3, none⟩), (9, true, ⟨some 25, Op.indexAddr 22 (Operand.tmp 23) (Operand.tmp 24), 0, none⟩), (10, true, ⟨some 26, Op.fieldAddr 33 (Operand.tmp 25) 1, 0, none⟩), (11, true, ⟨some 27, Op.load 27 (Operand.tmp 26), 27, none⟩), (13, true, ⟨some 29, Op.move (Operand.tmp 0), 22, none⟩), (14, true, ⟨some 30, Op.move (Operand.tmp 4), 3, none⟩), (15, true, ⟨some 31, Op.indexAddr 22 (Operand.tmp 29) (Operand.tmp 30), 0, none⟩), (16, true, ⟨some 32, Op.fieldAddr 33 (Operand.tmp 31) 2, 0, none⟩), (17, true, ⟨some 33, Op.load 27 (Operand.tmp 32), 27, none⟩), (12, false, ⟨some 28, Op.call { callee := Callee.value (Operand.func 34), args := #[Operand.tmp 27], argTypes := #[27] }, 27, none⟩), (18, false, ⟨some 34, Op.call { callee := Callee.value (Operand.func 34), args := #[Operand.tmp 33], argTypes := #[27] }, 27, none⟩), (19, true, ⟨some 35, Op.build 33 #[(0, Operand.tmp 22), (1, Operand.tmp 28), (2, Operand.tmp 34)], 33, none⟩), (20, true, ⟨some 36, Op.indexAddr 22 (Operand.tmp 16) (Operand.tmp 17), 0, none⟩), (21, false, ⟨none, Op.store 33 (Operand.tmp 36) (Operand.tmp 35), 0, none⟩)]) mix (by kernel_rfl) (by kernel_rfl) (by kernel_rfl) ⟨by kernel_rfl, by kernel_rfl, ⟨by kernel_rfl, by kernel_rfl, ⟨by kernel_rfl, by kernel_rfl, ⟨by kernel_rfl, by kernel_rfl, ⟨by kernel_rfl, by kernel_rfl, ⟨by kernel_rfl, by kernel_rfl, ⟨by kernel_rfl, by kernel_rfl, ⟨by kernel_rfl, by kernel_rfl, ⟨by kernel_rfl, by kernel_rfl, ⟨by kernel_rfl, by kernel_rfl, ⟨by kernel_rfl, by kernel_rfl, ⟨by kernel_rfl, by kernel_rfl, ⟨by kernel_rfl, by kernel_rfl, ⟨by kernel_rfl, by kernel_rfl, ⟨by kernel_rfl, by kernel_rfl, ⟨by kernel_rfl, by kernel_rfl, ⟨by kernel_rfl, by kernel_rfl, ⟨by kernel_rfl, by kernel_rfl, ⟨by kernel_rfl, by kernel_rfl, ⟨by kernel_rfl, by kernel_rfl, ⟨by kernel_rfl, by kernel_rfl, ⟨by kernel_rfl, by kernel_rfl, ordOk_nil (by kernel_rfl)⟩⟩⟩⟩⟩⟩⟩⟩⟩⟩⟩⟩⟩⟩⟩⟩⟩⟩⟩⟩⟩⟩ hS0 ?_
      refine TH_q rfl (fun _ hS => QV_move rfl) ?_
      refine TH_q rfl (fun _ hS => QV_move rfl) ?_
      refine TH_q rfl (fun _ hS => QV_move rfl) ?_
      refine TH_q rfl (fun _ hS => QV_move rfl) ?_
      refine TH_q rfl (fun _ hS => QV_idx rfl rfl el22 sz33 (hlt)) ?_
      refine TH_q rfl (fun _ hS => QV_field0 rfl fld33_0) ?_
      refine TH_q rfl (fun _ hS => QV_load rfl one3 (hS.1)) ?_
      refine TH_q rfl (fun _ hS => QV_move rfl) ?_
      refine TH_q rfl (fun _ hS => QV_move rfl) ?_
      refine TH_q rfl (fun _ hS => QV_idx rfl rfl el22 sz33 (hlt)) ?_
      refine TH_q rfl (fun _ hS => QV_field rfl fld33_1) ?_
      refine TH_q rfl (fun _ hS => QV_load rfl one27 (hS.2.1)) ?_
      refine TH_q rfl (fun _ hS => QV_move rfl) ?_
      refine TH_q rfl (fun _ hS => QV_move rfl) ?_
      refine TH_q rfl (fun _ hS => QV_idx rfl rfl el22 sz33 (hlt)) ?_
      refine TH_q rfl (fun _ hS => QV_field rfl fld33_2) ?_
      refine TH_q rfl (fun _ hS => QV_load rfl one27 (hS.2.2)) ?_
      refine TH_e rfl (EV_callD rfl rfl rfl call34 (cloneInts w1 B _ _ hva1 hsa) fun r3 w3 hr3 => ?_)
      obtain ⟨f13, hi3⟩ := hr3
      refine ⟨⟨cel_fr hS0.1 f13 (fun h => h), cel_fr hS0.2.1 f13 (fun h => h), cel_fr hS0.2.2 f13 (fun h => h)⟩, ?_⟩
      have hvu3 := hvu.fr (hfr.trans f13) (fun _ _ h => h)
      have s13 := f13.size
      refine TH_e rfl (EV_callD rfl rfl rfl call34 (cloneInts w3 B _ _ hvu3 hsu) fun r4 w4 hr4 => ?_)
      obtain ⟨f34, hi4⟩ := hr4
      have f14 := f13.trans f34
      have s34 := f34.size
      refine ⟨⟨cel_fr hS0.1 f14 (fun h => h), cel_fr hS0.2.1 f14 (fun h => h), cel_fr hS0.2.2 f14 (fun h => h)⟩, ?_⟩
      have hi3' : IntsAt w4.heap (fun b => w.heap.size < b ∧ b < w4.heap.size) r3 (rs.getD k rd0).all := (hi3.fr f34 (fun _ _ h => h)).mono (fun b hb => ⟨by omega, by omega⟩)
      have hi4' : IntsAt w4.heap (fun b => w.heap.size < b ∧ b < w4.heap.size) r4 (rs.getD k rd0).unl := hi4.mono (fun b hb => ⟨by omega, by omega⟩)
      have hcl4 := hcl.fr f14 (fun _ _ _ h => h)
      have hblk4 := hblk.fr f14 (fun h => h)
      have q3 := hi3'
      have q4 := hi4'
      obtain ⟨a3, c3, rfl, -⟩ := q3
      obtain ⟨a4, c4, rfl, -⟩ := q4
      refine TH_q rfl (fun _ hS => QV_build (v := .agg #[.int .i64 (rs.getD k rd0).head, .slice a3 (rs.getD k rd0).all.length c3, .slice a4 (rs.getD k rd0).unl.length c4]) rfl (fun w => by kernel_rfl)) ?_
      refine TH_q rfl (fun _ hS => QV_idx3 rfl rfl el22 sz33 (hlt)) ?_
      refine TH_e rfl (EV_store3 rfl rfl rfl rfl rfl sz33 hblk4 (by omega) fun w5 hu => ⟨⟨cel_fr (cel_fr hS0.1 f14 (fun h => h)) hu.fr (by omega), cel_fr (cel_fr hS0.2.1 f14 (fun h => h)) hu.fr (by omega), cel_fr (cel_fr hS0.2.2 f14 (fun h => h)) hu.fr (by omega)⟩, ?_⟩)
      refine TH_nil ?_
      -- R6
      refine W_reg (l := [⟨some 14, Op.move (Operand.tmp 4), 3, none⟩, ⟨some 15, Op.binOp BinOp.add 3 (Operand.tmp 14) (Operand.const (Value.int IntKind.i64 1)) 3, 3, none⟩, ⟨some 4, Op.assign (Operand.tmp 15), 3, none⟩]) (by kernel_rfl) (by kernel_rfl) ?_
      refine TL_q rfl (QV_move rfl) ?_
      refine TL_q rfl (QV_add (r := ((k + 1 : Nat) : Int)) rfl rfl (by omega) (by omega) (by omega)) ?_
      refine TL_q rfl (QV_assign rfl) ?_
      refine TL_nil ?_
      exact ⟨k + 1, ⟨by omega, (hfr.trans f14).upd hu (Nat.le_refl _), by rw [hu.size]; omega, _, hu.blk, by simp [hcs], (hcl4.set (by omega) _ _ hi3' hi4').fr hu.fr (by omega)⟩, ⟨rfl, rfl, rfl, trivial⟩, by omega⟩
    ·
      have hge : k = rs.length := by have := of_decide_eq_false hc13; omega
      subst hge
      refine W_exit 0 (by kernel_rfl) ?_
      show T Try.prog 38 (C Try.f13 [1, 1, 1, 1]) _ _ _
      refine W_seq (by kernel_rfl) ?_
      -- R8
      refine W_reg (l := [⟨some 37, Op.move (Operand.tmp 3), 22, none⟩, ⟨some 2, Op.assign (Operand.tmp 37), 22, none⟩]) (by kernel_rfl) (by kernel_rfl) ?_
      refine TL_q rfl (QV_move rfl) ?_
      refine TL_q rfl (QV_assign rfl) ?_
      refine TL_nil ?_
      refine W_ret (by kernel_rfl) ?_
      refine ⟨_, rfl, hfr, some ⟨w.heap.size, 0, none⟩, rs.length, rfl, Nat.le_refl _, fun h => (by cases h), fun hpos => ⟨w.heap.size, 0, rfl, ⟨Nat.le_refl _, hsz⟩, fun i hi => ?_⟩⟩
      obtain ⟨e1, va, vu, e2, e3, e4, e5⟩ := hcl i hi
      simp only [Nat.zero_add]
      exact ⟨by rw [hblk.cel]; exact e1, va, vu, by rw [hblk.cel]; exact e2, by rw [hblk.cel]; exact e3, e4.mono (fun b hb => ⟨by omega, hb.2⟩), e5.mono (fun b hb => ⟨by omega, hb.2⟩)⟩

end Go.Proofs.Qxb6600121a
