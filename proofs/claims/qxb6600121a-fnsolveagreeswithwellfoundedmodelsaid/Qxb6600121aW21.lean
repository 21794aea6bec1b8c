/-
   Walks written by program (wip/gen).
-/
import Derived.Test.Qxb6600121aMk
import Derived.Test.Qxb6600121aFin
namespace Go.Proofs.Qxb6600121a
open Go Go.Proofs
set_option linter.unusedVariables false
set_option linter.unusedSimpArgs false

structure RS where
  bs : List Bool
  st : List Nat
  sv : Value
theorem Row.top2 {h : Array Obj} {x c : Nat} {a : Option Addr} {st : List Nat} (hr : Row h 3 1 (.slice a (st.length + 1) c) (x :: st).length (nats (x :: st).reverse)) :
    ∃ g, a = some ⟨g, 0, none⟩ ∧ st.length + 1 ≤ c ∧ cel h g st.length = some (.int .i64 (x : Int)) := by
  obtain ⟨g, c', h1, h2, h3⟩ := hr.top
  injection h1 with e1 e2 e3
  subst e3
  exact ⟨g, e1, h2, h3⟩
set_option maxRecDepth 10000 in
set_option maxHeartbeats 2000000 in
theorem reachWalk (w : World) (B Tb : Nat → Prop) (n k root m cb : Nat) (hn : n ≤ 65536) (hroot : root < n) (D : List Rl) (hok : Okay n D) (hl : D.length + tot (D.map Rl.rd) ≤ 1048576) (rv bv uv xv : Value) (cs : List Nat) (hcl : cs.length = n) (hcs : Blk w.heap cb 3 (nats cs)) (hcm : cb ≠ m) (hrk : cs.getD root 0 = k)
    (bs0 : List Bool) (hb0 : bs0.length = n) (hmk : Blk w.heap m 4 (bools bs0)) (h0 : ∀ x, x < n → cs.getD x 0 = k → bs0.getD x false = false)
    (hr : RulesAt w.heap B rv (D.map Rl.rd)) (hB : ∀ b, B b → b ≠ m) (hbh : TblAt w.heap Tb bv n (idxH D n D.length)) (hus : TblAt w.heap Tb uv n (idxU D n D.length)) (hex : TblAt w.heap Tb xv n (idxE D n D.length)) (hC : ∀ b, Tb b → b ≠ m)
    (fwd : Bool) (E : Nat → Nat → Prop) (hE1 : fwd = true → ∀ x d, E x d → Ed D x d) (hE2 : fwd = false → ∀ x d, E x d → Ed D d x) :
    CallsS Try.prog 21 #[.int .i64 (root : Int), .int .i64 (k : Int), .slice (some ⟨cb, 0, none⟩) n n, rv, bv, uv, xv, .slice (some ⟨m, 0, none⟩) n n, .bool fwd] w
      (fun r w' => r = .tuple #[] ∧ ∃ bs, Fr (fun g => g = m) w w' ∧ Blk w'.heap m 4 (bools bs) ∧ bs.length = n ∧ (∀ x, cs.getD x 0 ≠ k → bs.getD x false = bs0.getD x false) ∧ ∀ y, Rch E (fun z => z < n ∧ cs.getD z 0 = k) root y → bs.getD y false = true) := by
  obtain ⟨ra, rc, rfl, hrcap, hrul⟩ := hr.nat
  obtain ⟨tb, rfl, htb, htab⟩ := hbh
  obtain ⟨tu, rfl, htu, hutab⟩ := hus
  obtain ⟨te, rfl, hte, hetab⟩ := hex
  have hms0 : m < w.heap.size := hmk.lt
  refine W_fun [] Try.func21 rfl Try.ntmps21 Try.results21 (Nat.le_of_ble_eq_true rfl) ?_
  refine W_seq (by kernel_rfl) ?_
  -- R0
  refine W_reg (l := [⟨some 32, Op.move (Operand.tmp 7), 37, none⟩, ⟨some 33, Op.move (Operand.tmp 0), 3, none⟩, ⟨some 34, Op.indexAddr 37 (Operand.tmp 32) (Operand.tmp 33), 0, none⟩, ⟨none, Op.store 4 (Operand.tmp 34) (Operand.const (Value.bool true)), 0, none⟩]) (by kernel_rfl) (by kernel_rfl) ?_
  refine TL_q rfl (QV_move rfl) ?_
  refine TL_q rfl (QV_move rfl) ?_
  refine TL_q rfl (QV_idx1 rfl rfl el37 sz4 (hroot)) ?_
  refine TL_e (EV_store rfl rfl rfl sz4 hmk (by rw [bools_len, hb0]; exact hroot) fun w1 u1 => ?_)
  refine TL_nil ?_
  refine W_seq (by kernel_rfl) ?_
  -- R1
  refine W_reg (l := [⟨some 35, Op.move (Operand.tmp 0), 3, none⟩, ⟨some 36, Op.buildSlice 27 1 #[(0, Operand.tmp 35)], 27, none⟩, ⟨some 18, Op.assign (Operand.tmp 36), 27, none⟩]) (by kernel_rfl) (by kernel_rfl) ?_
  refine TL_q rfl (QV_move rfl) ?_
  refine TL_e (EV_lit1 rfl rfl rfl el27 in3 rfl fun w2 h2 => ?_)
  refine TL_q rfl (QV_assign rfl) ?_
  refine TL_nil ?_
  have hri0 : RI n k root cs E bs0 (bs0.set root true) [root] (fun _ => False) := by
    have hf := h0 root hroot hrk
    have hm := unm_set bs0 root (by omega) hf
    have hm2 := unm_le bs0
    refine ⟨by simp [hb0], fun y hy => by rw [List.mem_singleton.1 hy]; exact hroot, fun x hx => getD_set_ne' _ root x _ _ (fun e => hx (by rw [← e]; exact hrk)), fun x hx hxk hxm => ?_, getD_set_eq _ _ _ _ (by omega), by rw [List.length_singleton]; omega⟩
    by_cases hxr : root = x
    · exact .inl (by rw [hxr]; exact List.mem_singleton.2 rfl)
    · rw [getD_set_ne' _ _ _ _ _ hxr, h0 x hx hxk] at hxm; cases hxm
  have fr0 : Fr (fun g => g = m) w w2 := u1.fr.newb h2
  have hrm0 : RM w2.heap w.heap.size m (bs0.set root true) (.slice (some ⟨w1.heap.size, 0, none⟩) 1 1) [root] := by
    refine ⟨?_, ?_, fun g hg => ?_⟩
    · have h1 := u1.blk
      rw [bools_set] at h1
      exact h1.fr h2.fr (fun h => h)
    · exact Row.of_blk (n := 1) (c := 1) (sz := 1) h2.blk (Nat.le_refl _) (by decide) rfl
    · have e : w1.heap.size = g := by simpa [Value.ownBlock] using hg
      have := u1.size
      omega
  refine W_block 0 (by kernel_rfl) ?_
  refine W_loop (ι := RS) (fun i w3 => RI n k root cs E bs0 i.bs i.st (fun _ => False) ∧ Fr (fun g => g = m) w w3 ∧ RM w3.heap w.heap.size m i.bs i.sv i.st) (fun i => [(1, .int .i64 (k : Int)), (2, .slice (some ⟨cb, 0, none⟩) n n), (3, .slice ra D.length rc), (4, .slice (some ⟨tb, 0, none⟩) n n), (5, .slice (some ⟨tu, 0, none⟩) n n), (6, .slice (some ⟨te, 0, none⟩) n n), (7, .slice (some ⟨m, 0, none⟩) n n), (8, .bool fwd), (18, i.sv)]) (fun i => unm i.bs + i.st.length) ⟨bs0.set root true, [root], .slice (some ⟨w1.heap.size, 0, none⟩) 1 1⟩ (by kernel_rfl) ?_ ?_ ?_
  · exact ⟨hri0, fr0, hrm0⟩
  · exact ⟨rfl, rfl, rfl, rfl, rfl, rfl, rfl, rfl, rfl, trivial⟩
  rintro ⟨bs, st, sv⟩ w3 ⟨hri, fr, hrm⟩
  dsimp only at hri fr hrm ⊢
  obtain ⟨sa, sc, rfl, hsc⟩ := hrm.row.form
  refine W_seq (by kernel_rfl) ?_
  refine W_seq (by kernel_rfl) ?_
  -- R2
  refine W_reg (l := [⟨some 37, Op.move (Operand.tmp 18), 27, none⟩, ⟨some 38, Op.call { callee := Callee.builtin Builtin.len, args := #[Operand.tmp 37], argTypes := #[27] }, 3, none⟩, ⟨some 39, Op.binOp BinOp.gtr 3 (Operand.tmp 38) (Operand.const (Value.int IntKind.i64 0)) 3, 4, none⟩]) (by kernel_rfl) (by kernel_rfl) ?_
  refine TL_q rfl (QV_move rfl) ?_
  refine TL_q rfl (QV_len rfl el27) ?_
  refine TL_q rfl (QV_gtr rfl rfl) ?_
  refine TL_nil ?_
  refine W_cond (c := Operand.tmp 39) (by kernel_rfl) rfl (fun hc39 => ?_) (fun hc39 => ?_)
  ·
    have hpos : 0 < st.length := by have := of_decide_eq_true hc39; omega
    obtain ⟨x, st', rfl⟩ := List.exists_cons_of_ne_nil (List.ne_nil_of_length_pos hpos)
    obtain ⟨sg, rfl, hsc2, htop⟩ := hrm.row.top2
    have hlc : (x :: st').length = st'.length + 1 := rfl
    have hx : x < n := hri.lt x (List.mem_cons_self ..)
    have hrmP := hrm.popM
    have hriP := hri.popX rfl
    have hmm := hri.m
    refine W_skip (by kernel_rfl) ?_
    refine W_block 1 (by kernel_rfl) ?_
    refine W_seq (by kernel_rfl) ?_
    -- R3
    refine W_reg (l := [⟨some 40, Op.move (Operand.tmp 18), 27, none⟩, ⟨some 41, Op.move (Operand.tmp 18), 27, none⟩, ⟨some 42, Op.call { callee := Callee.builtin Builtin.len, args := #[Operand.tmp 41], argTypes := #[27] }, 3, none⟩, ⟨some 43, Op.binOp BinOp.sub 3 (Operand.tmp 42) (Operand.const (Value.int IntKind.i64 1)) 3, 3, none⟩, ⟨some 44, Op.indexAddr 27 (Operand.tmp 40) (Operand.tmp 43), 0, none⟩, ⟨some 45, Op.load 3 (Operand.tmp 44), 3, none⟩, ⟨some 19, Op.assign (Operand.tmp 45), 3, none⟩]) (by kernel_rfl) (by kernel_rfl) ?_
    refine TL_q rfl (QV_move rfl) ?_
    refine TL_q rfl (QV_move rfl) ?_
    refine TL_q rfl (QV_len rfl el27) ?_
    refine TL_q rfl (QV_sub (r := ((st'.length : Nat) : Int)) rfl rfl (by omega) (by omega) (by omega)) ?_
    refine TL_q rfl (QV_idx1 rfl rfl el27 sz3 (by omega)) ?_
    refine TL_q rfl (QV_load rfl one3 (htop)) ?_
    refine TL_q rfl (QV_assign rfl) ?_
    refine TL_nil ?_
    refine W_seq (by kernel_rfl) ?_
    -- R4
    refine W_reg (l := [⟨some 46, Op.move (Operand.tmp 18), 27, none⟩, ⟨some 47, Op.move (Operand.tmp 18), 27, none⟩, ⟨some 48, Op.call { callee := Callee.builtin Builtin.len, args := #[Operand.tmp 47], argTypes := #[27] }, 3, none⟩, ⟨some 49, Op.binOp BinOp.sub 3 (Operand.tmp 48) (Operand.const (Value.int IntKind.i64 1)) 3, 3, none⟩, ⟨some 50, Op.slice 27 (Operand.tmp 46) none (some (Operand.tmp 49)) none, 27, none⟩, ⟨some 18, Op.assign (Operand.tmp 50), 27, none⟩]) (by kernel_rfl) (by kernel_rfl) ?_
    refine TL_q rfl (QV_move rfl) ?_
    refine TL_q rfl (QV_move rfl) ?_
    refine TL_q rfl (QV_len rfl el27) ?_
    refine TL_q rfl (QV_sub (r := ((st'.length : Nat) : Int)) rfl rfl (by omega) (by omega) (by omega)) ?_
    refine TL_q rfl (QV_sliceTo rfl rfl el27 sz3 (by omega)) ?_
    refine TL_q rfl (QV_assign rfl) ?_
    refine TL_nil ?_
    refine W_seq (by kernel_rfl) ?_
    -- R5
    refine W_reg (l := [⟨some 51, Op.move (Operand.tmp 8), 4, none⟩]) (by kernel_rfl) (by kernel_rfl) ?_
    refine TL_q rfl (QV_move rfl) ?_
    refine TL_nil ?_
    refine W_cond (c := Operand.tmp 51) (by kernel_rfl) rfl (fun hc51 => ?_) (fun hc51 => ?_)
    ·
      have hE := hE1 hc51
      obtain ⟨va, hva, hints⟩ := htab x hx
      obtain ⟨qa, qc, rfl, hqc, hrow1⟩ := hints.nat
      refine W_seq (by kernel_rfl) ?_
      -- R6
      refine W_reg (l := [⟨some 52, Op.move (Operand.tmp 4), 34, none⟩, ⟨some 53, Op.move (Operand.tmp 19), 3, none⟩, ⟨some 54, Op.indexAddr 34 (Operand.tmp 52) (Operand.tmp 53), 0, none⟩, ⟨some 55, Op.load 27 (Operand.tmp 54), 27, none⟩, ⟨some 56, Op.call { callee := Callee.builtin Builtin.len, args := #[Operand.tmp 55], argTypes := #[27] }, 3, none⟩, ⟨some 57, Op.move (Operand.const (Value.int IntKind.i64 0)), 3, none⟩]) (by kernel_rfl) (by kernel_rfl) ?_
      refine TL_q rfl (QV_move rfl) ?_
      refine TL_q rfl (QV_move rfl) ?_
      refine TL_q rfl (QV_idx1 rfl rfl el34 sz27 (hx)) ?_
      refine TL_q rfl (QV_load rfl one27 (cel_fr hva fr (hC _ htb))) ?_
      refine TL_q rfl (QV_len rfl el27) ?_
      refine TL_q rfl (QV_move rfl) ?_
      refine TL_nil ?_
      refine W_block 2 (by kernel_rfl) ?_
      refine W_loop (ι := Nat × RS) (fun i w4 => i.1 ≤ ((idxH D n D.length).getD x []).length ∧ RI n k root cs E bs0 i.2.bs i.2.st (fun y => y = x) ∧ Fr (fun g => g = m) w w4 ∧ RM w4.heap w.heap.size m i.2.bs i.2.sv i.2.st ∧ unm i.2.bs + i.2.st.length = unm bs + st'.length ∧ MkL cs k i.2.bs ((((idxH D n D.length).getD x []).take i.1).flatMap (body D))) (fun i => [(1, .int .i64 (k : Int)), (2, .slice (some ⟨cb, 0, none⟩) n n), (3, .slice ra D.length rc), (4, .slice (some ⟨tb, 0, none⟩) n n), (5, .slice (some ⟨tu, 0, none⟩) n n), (6, .slice (some ⟨te, 0, none⟩) n n), (7, .slice (some ⟨m, 0, none⟩) n n), (8, .bool fwd), (18, i.2.sv), (55, .slice qa ((idxH D n D.length).getD x []).length qc), (56, .int .i64 (((idxH D n D.length).getD x []).length : Nat)), (57, .int .i64 (i.1 : Int))]) (fun i => ((idxH D n D.length).getD x []).length - i.1) (0, ⟨bs, st', .slice (some ⟨sg, 0, none⟩) st'.length sc⟩) (by kernel_rfl) ?_ ?_ ?_
      · exact ⟨Nat.zero_le _, hriP, fr, hrmP, rfl, MkL.nil⟩
      · exact ⟨rfl, rfl, rfl, rfl, rfl, rfl, rfl, rfl, rfl, rfl, rfl, rfl, trivial⟩
      rintro ⟨iL, bs1, st1, sv1⟩ w4 ⟨hi1, hri1, fr1, hrm1, hms1, hex1⟩
      dsimp only at hi1 hri1 fr1 hrm1 hms1 hex1 ⊢
      have hmm1 := hri1.m
      have hsz1 := fr1.size
      refine W_seq (by kernel_rfl) ?_
      -- R7
      refine W_reg (l := [⟨some 58, Op.binOp BinOp.lss 3 (Operand.tmp 57) (Operand.tmp 56) 3, 0, none⟩]) (by kernel_rfl) (by kernel_rfl) ?_
      refine TL_q rfl (QV_lss rfl rfl) ?_
      refine TL_nil ?_
      refine W_seq (by kernel_rfl) ?_
      refine W_cond (c := Operand.tmp 58) (by kernel_rfl) rfl (fun hc58 => ?_) (fun hc58 => ?_)
      ·
        have hlt : iL < ((idxH D n D.length).getD x []).length := by have := of_decide_eq_true hc58; omega
        have hhsh := idxH_short D n D.length x
        obtain ⟨b1, o1, rfl, hb1C, hc1⟩ := hrow1 (by omega)
        obtain ⟨hrl, hrh⟩ := (mem_idxH D n D.length (Nat.le_refl _) hok x _).1 (getD_mem 0 hlt)
        obtain ⟨rb, ro, rfl, hrB, hrc2⟩ := hrul (by omega)
        obtain ⟨g1, va1, vu1, g2, g3, ga, gu⟩ := hrc2 _ hrl
        obtain ⟨aa, ca, rfl, hca, hall⟩ := ga.nat
        obtain ⟨au, cu, rfl, hcu, hunl⟩ := gu.nat
        have hoks := hok _ (getD_mem rl0 hrl)
        have htd := totD D _ hrl
        have htl := tot_take_le (D.map Rl.rd) ((((idxH D n D.length).getD x []).getD iL 0) + 1)
        refine W_skip (by kernel_rfl) ?_
        refine W_seq (by kernel_rfl) ?_
        refine W_block 3 (by kernel_rfl) ?_
        refine W_seq (by kernel_rfl) ?_
        -- R8
        refine W_reg (l := [⟨some 59, Op.indexAddr 27 (Operand.tmp 55) (Operand.tmp 57), 0, none⟩, ⟨some 60, Op.load 3 (Operand.tmp 59), 3, none⟩, ⟨some 21, Op.assign (Operand.tmp 60), 3, none⟩]) (by kernel_rfl) (by kernel_rfl) ?_
        refine TL_q rfl (QV_idxO rfl rfl el27 sz3 (hlt)) ?_
        refine TL_q rfl (QV_load rfl one3 (cel_fr (hc1 iL hlt) fr1 (hC _ hb1C))) ?_
        refine TL_q rfl (QV_assign rfl) ?_
        refine TL_nil ?_
        refine W_seq (by kernel_rfl) ?_
        refine W_seq (by kernel_rfl) ?_
        -- R9
        refine W_reg (l := [⟨some 61, Op.move (Operand.tmp 3), 22, none⟩, ⟨some 62, Op.move (Operand.tmp 21), 3, none⟩, ⟨some 63, Op.indexAddr 22 (Operand.tmp 61) (Operand.tmp 62), 0, none⟩, ⟨some 64, Op.fieldAddr 33 (Operand.tmp 63) 1, 0, none⟩, ⟨some 65, Op.load 27 (Operand.tmp 64), 27, none⟩, ⟨some 66, Op.call { callee := Callee.builtin Builtin.len, args := #[Operand.tmp 65], argTypes := #[27] }, 3, none⟩, ⟨some 67, Op.move (Operand.const (Value.int IntKind.i64 0)), 3, none⟩]) (by kernel_rfl) (by kernel_rfl) ?_
        refine TL_q rfl (QV_move rfl) ?_
        refine TL_q rfl (QV_move rfl) ?_
        refine TL_q rfl (QV_idx rfl rfl el22 sz33 (hrl)) ?_
        refine TL_q rfl (QV_field rfl fld33_1) ?_
        refine TL_q rfl (QV_load rfl one27 (cel_fr g2 fr1 (hB _ hrB))) ?_
        refine TL_q rfl (QV_len rfl el27) ?_
        refine TL_q rfl (QV_move rfl) ?_
        refine TL_nil ?_
        refine W_block 4 (by kernel_rfl) ?_
        refine W_loop (ι := Nat × RS) (fun i w5 => i.1 ≤ (D.getD (((idxH D n D.length).getD x []).getD iL 0) rl0).all.length ∧ RI n k root cs E bs0 i.2.bs i.2.st (fun y => y = x) ∧ Fr (fun g => g = m) w w5 ∧ RM w5.heap w.heap.size m i.2.bs i.2.sv i.2.st ∧ unm i.2.bs + i.2.st.length = unm bs + st'.length ∧ MkL cs k i.2.bs ((((idxH D n D.length).getD x []).take iL).flatMap (body D)) ∧ MkL cs k i.2.bs ((D.getD (((idxH D n D.length).getD x []).getD iL 0) rl0).all.take i.1)) (fun i => [(1, .int .i64 (k : Int)), (2, .slice (some ⟨cb, 0, none⟩) n n), (3, .slice (some ⟨rb, ro, none⟩) D.length rc), (4, .slice (some ⟨tb, 0, none⟩) n n), (5, .slice (some ⟨tu, 0, none⟩) n n), (6, .slice (some ⟨te, 0, none⟩) n n), (7, .slice (some ⟨m, 0, none⟩) n n), (8, .bool fwd), (18, i.2.sv), (55, .slice (some ⟨b1, o1, none⟩) ((idxH D n D.length).getD x []).length qc), (56, .int .i64 (((idxH D n D.length).getD x []).length : Nat)), (57, .int .i64 (iL : Int)), (21, .int .i64 ((((idxH D n D.length).getD x []).getD iL 0 : Nat) : Int)), (65, .slice aa (D.getD (((idxH D n D.length).getD x []).getD iL 0) rl0).all.length ca), (66, .int .i64 ((D.getD (((idxH D n D.length).getD x []).getD iL 0) rl0).all.length : Nat)), (67, .int .i64 (i.1 : Int))]) (fun i => (D.getD (((idxH D n D.length).getD x []).getD iL 0) rl0).all.length - i.1) (0, ⟨bs1, st1, sv1⟩) (by kernel_rfl) ?_ ?_ ?_
        · exact ⟨Nat.zero_le _, hri1, fr1, hrm1, hms1, hex1, MkL.nil⟩
        · exact ⟨rfl, rfl, rfl, rfl, rfl, rfl, rfl, rfl, rfl, rfl, rfl, rfl, rfl, rfl, rfl, rfl, trivial⟩
        rintro ⟨j, bs2, st2, sv2⟩ w5 ⟨hi2, hri2, fr2, hrm2, hms2, hex2⟩
        dsimp only at hi2 hri2 fr2 hrm2 hms2 hex2 ⊢
        have hmm2 := hri2.m
        have hsz2 := fr2.size
        refine W_seq (by kernel_rfl) ?_
        -- R10
        refine W_reg (l := [⟨some 68, Op.binOp BinOp.lss 3 (Operand.tmp 67) (Operand.tmp 66) 3, 0, none⟩]) (by kernel_rfl) (by kernel_rfl) ?_
        refine TL_q rfl (QV_lss rfl rfl) ?_
        refine TL_nil ?_
        refine W_seq (by kernel_rfl) ?_
        refine W_cond (c := Operand.tmp 68) (by kernel_rfl) rfl (fun hc68 => ?_) (fun hc68 => ?_)
        ·
          have hjl : j < (D.getD (((idxH D n D.length).getD x []).getD iL 0) rl0).all.length := by have := of_decide_eq_true hc68; omega
          obtain ⟨b2, o2, rfl, hb2B, hc2⟩ := hall (by omega)
          have hdn := hoks.2.1 _ (getD_mem 0 hjl)
          refine W_skip (by kernel_rfl) ?_
          refine W_seq (by kernel_rfl) ?_
          refine W_block 5 (by kernel_rfl) ?_
          refine W_seq (by kernel_rfl) ?_
          -- R11
          refine W_reg (l := [⟨some 69, Op.indexAddr 27 (Operand.tmp 65) (Operand.tmp 67), 0, none⟩, ⟨some 70, Op.load 3 (Operand.tmp 69), 3, none⟩, ⟨some 23, Op.assign (Operand.tmp 70), 3, none⟩]) (by kernel_rfl) (by kernel_rfl) ?_
          refine TL_q rfl (QV_idxO rfl rfl el27 sz3 (hjl)) ?_
          refine TL_q rfl (QV_load rfl one3 (cel_fr (hc2 j hjl) fr2 (hB _ hb2B))) ?_
          refine TL_q rfl (QV_assign rfl) ?_
          refine TL_nil ?_
          refine W_seq (by kernel_rfl) ?_
          -- R12
          refine W_reg (l := [⟨some 71, Op.move (Operand.tmp 2), 27, none⟩, ⟨some 72, Op.move (Operand.tmp 23), 3, none⟩, ⟨some 73, Op.indexAddr 27 (Operand.tmp 71) (Operand.tmp 72), 0, none⟩, ⟨some 74, Op.load 3 (Operand.tmp 73), 3, none⟩, ⟨some 75, Op.move (Operand.tmp 1), 3, none⟩, ⟨some 76, Op.binOp BinOp.eql 3 (Operand.tmp 74) (Operand.tmp 75) 3, 4, none⟩, ⟨some 77, Op.move (Operand.tmp 76), 4, none⟩, ⟨some 78, Op.move (Operand.tmp 7), 37, some (6, true)⟩, ⟨some 79, Op.move (Operand.tmp 23), 3, some (6, true)⟩, ⟨some 80, Op.indexAddr 37 (Operand.tmp 78) (Operand.tmp 79), 0, some (6, true)⟩, ⟨some 81, Op.load 4 (Operand.tmp 80), 4, some (6, true)⟩, ⟨some 82, Op.unOp UnOp.not 4 (Operand.tmp 81), 4, some (6, true)⟩, ⟨some 83, Op.pick (Operand.tmp 77) (Operand.tmp 82) (Operand.const (Value.bool false)), 4, none⟩]) (by kernel_rfl) (by kernel_rfl) ?_
          refine TL_q rfl (QV_move rfl) ?_
          refine TL_q rfl (QV_move rfl) ?_
          refine TL_q rfl (QV_idx1 rfl rfl el27 sz3 (hdn)) ?_
          refine TL_q rfl (QV_load rfl one3 ((hcs.fr fr2 (fun e => hcm e)).cN (by rw [hcl]; exact hdn))) ?_
          refine TL_q rfl (QV_move rfl) ?_
          refine TL_q rfl (QV_eql rfl rfl) ?_
          refine TL_q rfl (QV_move rfl) ?_
          refine TL_cases (t := 77) rfl (fun hb77 => ?_) (fun hb77 => ?_)
          ·
            have hk : cs.getD ((D.getD (((idxH D n D.length).getD x []).getD iL 0) rl0).all.getD j 0) 0 = k := by have := of_decide_eq_true hb77; omega
            refine TL_gq rfl rfl rfl rfl (QV_move rfl) ?_
            refine TL_gq rfl rfl rfl rfl (QV_move rfl) ?_
            refine TL_gq rfl rfl rfl rfl (QV_idx1 rfl rfl el37 sz4 (hdn)) ?_
            refine TL_gq rfl rfl rfl rfl (QV_load rfl one4 (hrm2.mrk.cB (by rw [hri2.len]; exact hdn))) ?_
            refine TL_gq rfl rfl rfl rfl (QV_not rfl) ?_
            refine TL_q rfl (QV_pickT rfl rfl) ?_
            refine TL_nil ?_
            refine W_cond (c := Operand.tmp 83) (by kernel_rfl) rfl (fun hc83 => ?_) (fun hc83 => ?_)
            ·
              have hf : bs2.getD ((D.getD (((idxH D n D.length).getD x []).getD iL 0) rl0).all.getD j 0) false = false := by simpa using hc83
              refine W_seq (by kernel_rfl) ?_
              -- R13
              refine W_reg (l := [⟨some 84, Op.move (Operand.tmp 7), 37, none⟩, ⟨some 85, Op.move (Operand.tmp 23), 3, none⟩, ⟨some 86, Op.indexAddr 37 (Operand.tmp 84) (Operand.tmp 85), 0, none⟩, ⟨none, Op.store 4 (Operand.tmp 86) (Operand.const (Value.bool true)), 0, none⟩]) (by kernel_rfl) (by kernel_rfl) ?_
              refine TL_q rfl (QV_move rfl) ?_
              refine TL_q rfl (QV_move rfl) ?_
              refine TL_q rfl (QV_idx1 rfl rfl el37 sz4 (hdn)) ?_
              refine TL_e (EV_store rfl rfl rfl sz4 hrm2.mrk (by rw [bools_len, hri2.len]; exact hdn) fun w7 u7 => ?_)
              obtain ⟨sa7, sc7, e7, -⟩ := hrm2.row.form
              refine TL_nil ?_
              -- R14
              refine W_reg (l := [⟨some 87, Op.move (Operand.tmp 18), 27, none⟩, ⟨some 88, Op.move (Operand.tmp 23), 3, none⟩, ⟨some 89, Op.buildSlice 27 1 #[(0, Operand.tmp 88)], 27, none⟩, ⟨some 90, Op.call { callee := Callee.builtin Builtin.append, args := #[Operand.tmp 87, Operand.tmp 89], argTypes := #[27, 27] }, 27, none⟩, ⟨some 18, Op.assign (Operand.tmp 90), 27, none⟩]) (by kernel_rfl) (by kernel_rfl) ?_
              refine TL_q rfl (QV_move rfl) ?_
              refine TL_q rfl (QV_move rfl) ?_
              refine TL_e (EV_lit1 rfl rfl rfl el27 in3 rfl fun w8 h8 => ?_)
              refine TL_e (EV_append rfl rfl rfl el27 in3 rfl (by decide) ((hrm2.row.fr u7.fr (fun g hg e => by have := hrm2.own g hg; omega)).fr h8.fr (fun _ _ h => h)) rfl (news1 h8.blk) (one1 rfl) (by omega) (by omega) fun v9 w9 hrow9 h89 hat9 => ?_)
              have hrmN := hrm2.push hms0 (by omega) u7 h8 hrow9 h89 hat9
              have frN := hrm2.frPush fr2 u7 h8 h89
              have hriN := hri2.mark hdn hk hf
              have hmsN := unm_set bs2 ((D.getD (((idxH D n D.length).getD x []).getD iL 0) rl0).all.getD j 0) (by rw [hri2.len]; exact hdn) hf
              have hslN : (((D.getD (((idxH D n D.length).getD x []).getD iL 0) rl0).all.getD j 0) :: st2).length = st2.length + 1 := rfl
              refine TL_q rfl (QV_assign rfl) ?_
              refine TL_nil ?_
              -- R15
              refine W_reg (l := [⟨some 91, Op.binOp BinOp.add 3 (Operand.tmp 67) (Operand.const (Value.int IntKind.i64 1)) 3, 3, none⟩, ⟨some 67, Op.move (Operand.tmp 91), 3, none⟩]) (by kernel_rfl) (by kernel_rfl) ?_
              refine TL_q rfl (QV_add (r := ((j + 1 : Nat) : Int)) rfl rfl (by omega) (by omega) (by omega)) ?_
              refine TL_q rfl (QV_move rfl) ?_
              refine TL_nil ?_
              first
                | exact ⟨(j + 1, ⟨bs2, st2, sv2⟩), ⟨by omega, hri2, fr2, hrm2, hms2, hex2.1, hex2.2.snoc hjl hmk2⟩, ⟨rfl, rfl, rfl, rfl, rfl, rfl, rfl, rfl, rfl, rfl, rfl, rfl, rfl, rfl, rfl, rfl, trivial⟩, by show (D.getD (((idxH D n D.length).getD x []).getD iL 0) rl0).all.length - (j + 1) < (D.getD (((idxH D n D.length).getD x []).getD iL 0) rl0).all.length - j; omega⟩
                | exact ⟨(j + 1, ⟨bs2.set ((D.getD (((idxH D n D.length).getD x []).getD iL 0) rl0).all.getD j 0) true, ((D.getD (((idxH D n D.length).getD x []).getD iL 0) rl0).all.getD j 0) :: st2, v9⟩), ⟨by omega, hriN, frN, hrmN, (by show unm (bs2.set ((D.getD (((idxH D n D.length).getD x []).getD iL 0) rl0).all.getD j 0) true) + (((D.getD (((idxH D n D.length).getD x []).getD iL 0) rl0).all.getD j 0) :: st2).length = _; omega), hex2.1.mono _, (hex2.2.mono _).snoc hjl (fun _ => getD_set_eq _ _ _ _ (by rw [hri2.len]; exact hdn))⟩, ⟨rfl, rfl, rfl, rfl, rfl, rfl, rfl, rfl, rfl, rfl, rfl, rfl, rfl, rfl, rfl, rfl, trivial⟩, by show (D.getD (((idxH D n D.length).getD x []).getD iL 0) rl0).all.length - (j + 1) < (D.getD (((idxH D n D.length).getD x []).getD iL 0) rl0).all.length - j; omega⟩
            ·
              have hmk2 : cs.getD ((D.getD (((idxH D n D.length).getD x []).getD iL 0) rl0).all.getD j 0) 0 = k → bs2.getD ((D.getD (((idxH D n D.length).getD x []).getD iL 0) rl0).all.getD j 0) false = true := fun _ => by simpa using hc83
              refine W_skip (by kernel_rfl) ?_
              -- R15
              refine W_reg (l := [⟨some 91, Op.binOp BinOp.add 3 (Operand.tmp 67) (Operand.const (Value.int IntKind.i64 1)) 3, 3, none⟩, ⟨some 67, Op.move (Operand.tmp 91), 3, none⟩]) (by kernel_rfl) (by kernel_rfl) ?_
              refine TL_q rfl (QV_add (r := ((j + 1 : Nat) : Int)) rfl rfl (by omega) (by omega) (by omega)) ?_
              refine TL_q rfl (QV_move rfl) ?_
              refine TL_nil ?_
              first
                | exact ⟨(j + 1, ⟨bs2, st2, sv2⟩), ⟨by omega, hri2, fr2, hrm2, hms2, hex2.1, hex2.2.snoc hjl hmk2⟩, ⟨rfl, rfl, rfl, rfl, rfl, rfl, rfl, rfl, rfl, rfl, rfl, rfl, rfl, rfl, rfl, rfl, trivial⟩, by show (D.getD (((idxH D n D.length).getD x []).getD iL 0) rl0).all.length - (j + 1) < (D.getD (((idxH D n D.length).getD x []).getD iL 0) rl0).all.length - j; omega⟩
                | exact ⟨(j + 1, ⟨bs2.set ((D.getD (((idxH D n D.length).getD x []).getD iL 0) rl0).all.getD j 0) true, ((D.getD (((idxH D n D.length).getD x []).getD iL 0) rl0).all.getD j 0) :: st2, v9⟩), ⟨by omega, hriN, frN, hrmN, (by show unm (bs2.set ((D.getD (((idxH D n D.length).getD x []).getD iL 0) rl0).all.getD j 0) true) + (((D.getD (((idxH D n D.length).getD x []).getD iL 0) rl0).all.getD j 0) :: st2).length = _; omega), hex2.1.mono _, (hex2.2.mono _).snoc hjl (fun _ => getD_set_eq _ _ _ _ (by rw [hri2.len]; exact hdn))⟩, ⟨rfl, rfl, rfl, rfl, rfl, rfl, rfl, rfl, rfl, rfl, rfl, rfl, rfl, rfl, rfl, rfl, trivial⟩, by show (D.getD (((idxH D n D.length).getD x []).getD iL 0) rl0).all.length - (j + 1) < (D.getD (((idxH D n D.length).getD x []).getD iL 0) rl0).all.length - j; omega⟩
          ·
            have hmk2 : cs.getD ((D.getD (((idxH D n D.length).getD x []).getD iL 0) rl0).all.getD j 0) 0 = k → bs2.getD ((D.getD (((idxH D n D.length).getD x []).getD iL 0) rl0).all.getD j 0) false = true := fun e => absurd (by rw [e]) (of_decide_eq_false hb77)
            refine TL_gs rfl rfl rfl rfl ?_
            refine TL_gs rfl rfl rfl rfl ?_
            refine TL_gs rfl rfl rfl rfl ?_
            refine TL_gs rfl rfl rfl rfl ?_
            refine TL_gs rfl rfl rfl rfl ?_
            refine TL_q rfl (QV_pickF rfl rfl) ?_
            refine TL_nil ?_
            refine W_condF (c := Operand.tmp 83) (by kernel_rfl) rfl ?_
            refine W_skip (by kernel_rfl) ?_
            -- R15
            refine W_reg (l := [⟨some 91, Op.binOp BinOp.add 3 (Operand.tmp 67) (Operand.const (Value.int IntKind.i64 1)) 3, 3, none⟩, ⟨some 67, Op.move (Operand.tmp 91), 3, none⟩]) (by kernel_rfl) (by kernel_rfl) ?_
            refine TL_q rfl (QV_add (r := ((j + 1 : Nat) : Int)) rfl rfl (by omega) (by omega) (by omega)) ?_
            refine TL_q rfl (QV_move rfl) ?_
            refine TL_nil ?_
            first
              | exact ⟨(j + 1, ⟨bs2, st2, sv2⟩), ⟨by omega, hri2, fr2, hrm2, hms2, hex2.1, hex2.2.snoc hjl hmk2⟩, ⟨rfl, rfl, rfl, rfl, rfl, rfl, rfl, rfl, rfl, rfl, rfl, rfl, rfl, rfl, rfl, rfl, trivial⟩, by show (D.getD (((idxH D n D.length).getD x []).getD iL 0) rl0).all.length - (j + 1) < (D.getD (((idxH D n D.length).getD x []).getD iL 0) rl0).all.length - j; omega⟩
              | exact ⟨(j + 1, ⟨bs2.set ((D.getD (((idxH D n D.length).getD x []).getD iL 0) rl0).all.getD j 0) true, ((D.getD (((idxH D n D.length).getD x []).getD iL 0) rl0).all.getD j 0) :: st2, v9⟩), ⟨by omega, hriN, frN, hrmN, (by show unm (bs2.set ((D.getD (((idxH D n D.length).getD x []).getD iL 0) rl0).all.getD j 0) true) + (((D.getD (((idxH D n D.length).getD x []).getD iL 0) rl0).all.getD j 0) :: st2).length = _; omega), hex2.1.mono _, (hex2.2.mono _).snoc hjl (fun _ => getD_set_eq _ _ _ _ (by rw [hri2.len]; exact hdn))⟩, ⟨rfl, rfl, rfl, rfl, rfl, rfl, rfl, rfl, rfl, rfl, rfl, rfl, rfl, rfl, rfl, rfl, trivial⟩, by show (D.getD (((idxH D n D.length).getD x []).getD iL 0) rl0).all.length - (j + 1) < (D.getD (((idxH D n D.length).getD x []).getD iL 0) rl0).all.length - j; omega⟩
        ·
          have hje2 : j = (D.getD (((idxH D n D.length).getD x []).getD iL 0) rl0).all.length := by have := of_decide_eq_false hc68; omega
          refine W_exit 4 (by kernel_rfl) ?_
          show T Try.prog 194 (C Try.f21 [1, 1, 0, 0, 1, 1, 0, 0, 1, 0, 1, 1, 1, 0, 1, 0, 0, 1, 1]) _ _ _
          refine W_seq (by kernel_rfl) ?_
          -- R16
          refine W_reg (l := [⟨some 92, Op.move (Operand.tmp 3), 22, none⟩, ⟨some 93, Op.move (Operand.tmp 21), 3, none⟩, ⟨some 94, Op.indexAddr 22 (Operand.tmp 92) (Operand.tmp 93), 0, none⟩, ⟨some 95, Op.fieldAddr 33 (Operand.tmp 94) 2, 0, none⟩, ⟨some 96, Op.load 27 (Operand.tmp 95), 27, none⟩, ⟨some 97, Op.call { callee := Callee.builtin Builtin.len, args := #[Operand.tmp 96], argTypes := #[27] }, 3, none⟩, ⟨some 98, Op.move (Operand.const (Value.int IntKind.i64 0)), 3, none⟩]) (by kernel_rfl) (by kernel_rfl) ?_
          refine TL_q rfl (QV_move rfl) ?_
          refine TL_q rfl (QV_move rfl) ?_
          refine TL_q rfl (QV_idx rfl rfl el22 sz33 (hrl)) ?_
          refine TL_q rfl (QV_field rfl fld33_2) ?_
          refine TL_q rfl (QV_load rfl one27 (cel_fr g3 fr2 (hB _ hrB))) ?_
          refine TL_q rfl (QV_len rfl el27) ?_
          refine TL_q rfl (QV_move rfl) ?_
          refine TL_nil ?_
          refine W_block 6 (by kernel_rfl) ?_
          refine W_loop (ι := Nat × RS) (fun i w6 => i.1 ≤ (D.getD (((idxH D n D.length).getD x []).getD iL 0) rl0).unl.length ∧ RI n k root cs E bs0 i.2.bs i.2.st (fun y => y = x) ∧ Fr (fun g => g = m) w w6 ∧ RM w6.heap w.heap.size m i.2.bs i.2.sv i.2.st ∧ unm i.2.bs + i.2.st.length = unm bs + st'.length ∧ MkL cs k i.2.bs ((((idxH D n D.length).getD x []).take iL).flatMap (body D)) ∧ MkL cs k i.2.bs (D.getD (((idxH D n D.length).getD x []).getD iL 0) rl0).all ∧ MkL cs k i.2.bs ((D.getD (((idxH D n D.length).getD x []).getD iL 0) rl0).unl.take i.1)) (fun i => [(1, .int .i64 (k : Int)), (2, .slice (some ⟨cb, 0, none⟩) n n), (3, .slice (some ⟨rb, ro, none⟩) D.length rc), (4, .slice (some ⟨tb, 0, none⟩) n n), (5, .slice (some ⟨tu, 0, none⟩) n n), (6, .slice (some ⟨te, 0, none⟩) n n), (7, .slice (some ⟨m, 0, none⟩) n n), (8, .bool fwd), (18, i.2.sv), (55, .slice (some ⟨b1, o1, none⟩) ((idxH D n D.length).getD x []).length qc), (56, .int .i64 (((idxH D n D.length).getD x []).length : Nat)), (57, .int .i64 (iL : Int)), (96, .slice au (D.getD (((idxH D n D.length).getD x []).getD iL 0) rl0).unl.length cu), (97, .int .i64 ((D.getD (((idxH D n D.length).getD x []).getD iL 0) rl0).unl.length : Nat)), (98, .int .i64 (i.1 : Int))]) (fun i => (D.getD (((idxH D n D.length).getD x []).getD iL 0) rl0).unl.length - i.1) (0, ⟨bs2, st2, sv2⟩) (by kernel_rfl) ?_ ?_ ?_
          · exact ⟨Nat.zero_le _, hri2, fr2, hrm2, hms2, hex2.1, (by have h5 := hex2.2; rw [hje2, List.take_length] at h5; exact h5), MkL.nil⟩
          · exact ⟨rfl, rfl, rfl, rfl, rfl, rfl, rfl, rfl, rfl, rfl, rfl, rfl, rfl, rfl, rfl, trivial⟩
          rintro ⟨j, bs3, st3, sv3⟩ w6 ⟨hi3, hri3, fr3, hrm3, hms3, hex3⟩
          dsimp only at hi3 hri3 fr3 hrm3 hms3 hex3 ⊢
          have hmm3 := hri3.m
          have hsz3 := fr3.size
          refine W_seq (by kernel_rfl) ?_
          -- R17
          refine W_reg (l := [⟨some 99, Op.binOp BinOp.lss 3 (Operand.tmp 98) (Operand.tmp 97) 3, 0, none⟩]) (by kernel_rfl) (by kernel_rfl) ?_
          refine TL_q rfl (QV_lss rfl rfl) ?_
          refine TL_nil ?_
          refine W_seq (by kernel_rfl) ?_
          refine W_cond (c := Operand.tmp 99) (by kernel_rfl) rfl (fun hc99 => ?_) (fun hc99 => ?_)
          ·
            have hjl : j < (D.getD (((idxH D n D.length).getD x []).getD iL 0) rl0).unl.length := by have := of_decide_eq_true hc99; omega
            obtain ⟨b2, o2, rfl, hb2B, hc2⟩ := hunl (by omega)
            have hdn := hoks.2.2 _ (getD_mem 0 hjl)
            refine W_skip (by kernel_rfl) ?_
            refine W_seq (by kernel_rfl) ?_
            refine W_block 7 (by kernel_rfl) ?_
            refine W_seq (by kernel_rfl) ?_
            -- R18
            refine W_reg (l := [⟨some 100, Op.indexAddr 27 (Operand.tmp 96) (Operand.tmp 98), 0, none⟩, ⟨some 101, Op.load 3 (Operand.tmp 100), 3, none⟩, ⟨some 25, Op.assign (Operand.tmp 101), 3, none⟩]) (by kernel_rfl) (by kernel_rfl) ?_
            refine TL_q rfl (QV_idxO rfl rfl el27 sz3 (hjl)) ?_
            refine TL_q rfl (QV_load rfl one3 (cel_fr (hc2 j hjl) fr3 (hB _ hb2B))) ?_
            refine TL_q rfl (QV_assign rfl) ?_
            refine TL_nil ?_
            refine W_seq (by kernel_rfl) ?_
            -- R19
            refine W_reg (l := [⟨some 102, Op.move (Operand.tmp 2), 27, none⟩, ⟨some 103, Op.move (Operand.tmp 25), 3, none⟩, ⟨some 104, Op.indexAddr 27 (Operand.tmp 102) (Operand.tmp 103), 0, none⟩, ⟨some 105, Op.load 3 (Operand.tmp 104), 3, none⟩, ⟨some 106, Op.move (Operand.tmp 1), 3, none⟩, ⟨some 107, Op.binOp BinOp.eql 3 (Operand.tmp 105) (Operand.tmp 106) 3, 4, none⟩, ⟨some 108, Op.move (Operand.tmp 107), 4, none⟩, ⟨some 109, Op.move (Operand.tmp 7), 37, some (6, true)⟩, ⟨some 110, Op.move (Operand.tmp 25), 3, some (6, true)⟩, ⟨some 111, Op.indexAddr 37 (Operand.tmp 109) (Operand.tmp 110), 0, some (6, true)⟩, ⟨some 112, Op.load 4 (Operand.tmp 111), 4, some (6, true)⟩, ⟨some 113, Op.unOp UnOp.not 4 (Operand.tmp 112), 4, some (6, true)⟩, ⟨some 114, Op.pick (Operand.tmp 108) (Operand.tmp 113) (Operand.const (Value.bool false)), 4, none⟩]) (by kernel_rfl) (by kernel_rfl) ?_
            refine TL_q rfl (QV_move rfl) ?_
            refine TL_q rfl (QV_move rfl) ?_
            refine TL_q rfl (QV_idx1 rfl rfl el27 sz3 (hdn)) ?_
            refine TL_q rfl (QV_load rfl one3 ((hcs.fr fr3 (fun e => hcm e)).cN (by rw [hcl]; exact hdn))) ?_
            refine TL_q rfl (QV_move rfl) ?_
            refine TL_q rfl (QV_eql rfl rfl) ?_
            refine TL_q rfl (QV_move rfl) ?_
            refine TL_cases (t := 108) rfl (fun hb108 => ?_) (fun hb108 => ?_)
            ·
              have hk : cs.getD ((D.getD (((idxH D n D.length).getD x []).getD iL 0) rl0).unl.getD j 0) 0 = k := by have := of_decide_eq_true hb108; omega
              refine TL_gq rfl rfl rfl rfl (QV_move rfl) ?_
              refine TL_gq rfl rfl rfl rfl (QV_move rfl) ?_
              refine TL_gq rfl rfl rfl rfl (QV_idx1 rfl rfl el37 sz4 (hdn)) ?_
              refine TL_gq rfl rfl rfl rfl (QV_load rfl one4 (hrm3.mrk.cB (by rw [hri3.len]; exact hdn))) ?_
              refine TL_gq rfl rfl rfl rfl (QV_not rfl) ?_
              refine TL_q rfl (QV_pickT rfl rfl) ?_
              refine TL_nil ?_
              refine W_cond (c := Operand.tmp 114) (by kernel_rfl) rfl (fun hc114 => ?_) (fun hc114 => ?_)
              ·
                have hf : bs3.getD ((D.getD (((idxH D n D.length).getD x []).getD iL 0) rl0).unl.getD j 0) false = false := by simpa using hc114
                refine W_seq (by kernel_rfl) ?_
                -- R20
                refine W_reg (l := [⟨some 115, Op.move (Operand.tmp 7), 37, none⟩, ⟨some 116, Op.move (Operand.tmp 25), 3, none⟩, ⟨some 117, Op.indexAddr 37 (Operand.tmp 115) (Operand.tmp 116), 0, none⟩, ⟨none, Op.store 4 (Operand.tmp 117) (Operand.const (Value.bool true)), 0, none⟩]) (by kernel_rfl) (by kernel_rfl) ?_
                refine TL_q rfl (QV_move rfl) ?_
                refine TL_q rfl (QV_move rfl) ?_
                refine TL_q rfl (QV_idx1 rfl rfl el37 sz4 (hdn)) ?_
                refine TL_e (EV_store rfl rfl rfl sz4 hrm3.mrk (by rw [bools_len, hri3.len]; exact hdn) fun w7 u7 => ?_)
                obtain ⟨sa7, sc7, e7, -⟩ := hrm3.row.form
                refine TL_nil ?_
                -- R21
                refine W_reg (l := [⟨some 118, Op.move (Operand.tmp 18), 27, none⟩, ⟨some 119, Op.move (Operand.tmp 25), 3, none⟩, ⟨some 120, Op.buildSlice 27 1 #[(0, Operand.tmp 119)], 27, none⟩, ⟨some 121, Op.call { callee := Callee.builtin Builtin.append, args := #[Operand.tmp 118, Operand.tmp 120], argTypes := #[27, 27] }, 27, none⟩, ⟨some 18, Op.assign (Operand.tmp 121), 27, none⟩]) (by kernel_rfl) (by kernel_rfl) ?_
                refine TL_q rfl (QV_move rfl) ?_
                refine TL_q rfl (QV_move rfl) ?_
                refine TL_e (EV_lit1 rfl rfl rfl el27 in3 rfl fun w8 h8 => ?_)
                refine TL_e (EV_append rfl rfl rfl el27 in3 rfl (by decide) ((hrm3.row.fr u7.fr (fun g hg e => by have := hrm3.own g hg; omega)).fr h8.fr (fun _ _ h => h)) rfl (news1 h8.blk) (one1 rfl) (by omega) (by omega) fun v9 w9 hrow9 h89 hat9 => ?_)
                have hrmN := hrm3.push hms0 (by omega) u7 h8 hrow9 h89 hat9
                have frN := hrm3.frPush fr3 u7 h8 h89
                have hriN := hri3.mark hdn hk hf
                have hmsN := unm_set bs3 ((D.getD (((idxH D n D.length).getD x []).getD iL 0) rl0).unl.getD j 0) (by rw [hri3.len]; exact hdn) hf
                have hslN : (((D.getD (((idxH D n D.length).getD x []).getD iL 0) rl0).unl.getD j 0) :: st3).length = st3.length + 1 := rfl
                refine TL_q rfl (QV_assign rfl) ?_
                refine TL_nil ?_
                -- R22
                refine W_reg (l := [⟨some 122, Op.binOp BinOp.add 3 (Operand.tmp 98) (Operand.const (Value.int IntKind.i64 1)) 3, 3, none⟩, ⟨some 98, Op.move (Operand.tmp 122), 3, none⟩]) (by kernel_rfl) (by kernel_rfl) ?_
                refine TL_q rfl (QV_add (r := ((j + 1 : Nat) : Int)) rfl rfl (by omega) (by omega) (by omega)) ?_
                refine TL_q rfl (QV_move rfl) ?_
                refine TL_nil ?_
                first
                  | exact ⟨(j + 1, ⟨bs3, st3, sv3⟩), ⟨by omega, hri3, fr3, hrm3, hms3, hex3.1, hex3.2.1, hex3.2.2.snoc hjl hmk3⟩, ⟨rfl, rfl, rfl, rfl, rfl, rfl, rfl, rfl, rfl, rfl, rfl, rfl, rfl, rfl, rfl, trivial⟩, by show (D.getD (((idxH D n D.length).getD x []).getD iL 0) rl0).unl.length - (j + 1) < (D.getD (((idxH D n D.length).getD x []).getD iL 0) rl0).unl.length - j; omega⟩
                  | exact ⟨(j + 1, ⟨bs3.set ((D.getD (((idxH D n D.length).getD x []).getD iL 0) rl0).unl.getD j 0) true, ((D.getD (((idxH D n D.length).getD x []).getD iL 0) rl0).unl.getD j 0) :: st3, v9⟩), ⟨by omega, hriN, frN, hrmN, (by show unm (bs3.set ((D.getD (((idxH D n D.length).getD x []).getD iL 0) rl0).unl.getD j 0) true) + (((D.getD (((idxH D n D.length).getD x []).getD iL 0) rl0).unl.getD j 0) :: st3).length = _; omega), hex3.1.mono _, hex3.2.1.mono _, (hex3.2.2.mono _).snoc hjl (fun _ => getD_set_eq _ _ _ _ (by rw [hri3.len]; exact hdn))⟩, ⟨rfl, rfl, rfl, rfl, rfl, rfl, rfl, rfl, rfl, rfl, rfl, rfl, rfl, rfl, rfl, trivial⟩, by show (D.getD (((idxH D n D.length).getD x []).getD iL 0) rl0).unl.length - (j + 1) < (D.getD (((idxH D n D.length).getD x []).getD iL 0) rl0).unl.length - j; omega⟩
              ·
                have hmk3 : cs.getD ((D.getD (((idxH D n D.length).getD x []).getD iL 0) rl0).unl.getD j 0) 0 = k → bs3.getD ((D.getD (((idxH D n D.length).getD x []).getD iL 0) rl0).unl.getD j 0) false = true := fun _ => by simpa using hc114
                refine W_skip (by kernel_rfl) ?_
                -- R22
                refine W_reg (l := [⟨some 122, Op.binOp BinOp.add 3 (Operand.tmp 98) (Operand.const (Value.int IntKind.i64 1)) 3, 3, none⟩, ⟨some 98, Op.move (Operand.tmp 122), 3, none⟩]) (by kernel_rfl) (by kernel_rfl) ?_
                refine TL_q rfl (QV_add (r := ((j + 1 : Nat) : Int)) rfl rfl (by omega) (by omega) (by omega)) ?_
                refine TL_q rfl (QV_move rfl) ?_
                refine TL_nil ?_
                first
                  | exact ⟨(j + 1, ⟨bs3, st3, sv3⟩), ⟨by omega, hri3, fr3, hrm3, hms3, hex3.1, hex3.2.1, hex3.2.2.snoc hjl hmk3⟩, ⟨rfl, rfl, rfl, rfl, rfl, rfl, rfl, rfl, rfl, rfl, rfl, rfl, rfl, rfl, rfl, trivial⟩, by show (D.getD (((idxH D n D.length).getD x []).getD iL 0) rl0).unl.length - (j + 1) < (D.getD (((idxH D n D.length).getD x []).getD iL 0) rl0).unl.length - j; omega⟩
                  | exact ⟨(j + 1, ⟨bs3.set ((D.getD (((idxH D n D.length).getD x []).getD iL 0) rl0).unl.getD j 0) true, ((D.getD (((idxH D n D.length).getD x []).getD iL 0) rl0).unl.getD j 0) :: st3, v9⟩), ⟨by omega, hriN, frN, hrmN, (by show unm (bs3.set ((D.getD (((idxH D n D.length).getD x []).getD iL 0) rl0).unl.getD j 0) true) + (((D.getD (((idxH D n D.length).getD x []).getD iL 0) rl0).unl.getD j 0) :: st3).length = _; omega), hex3.1.mono _, hex3.2.1.mono _, (hex3.2.2.mono _).snoc hjl (fun _ => getD_set_eq _ _ _ _ (by rw [hri3.len]; exact hdn))⟩, ⟨rfl, rfl, rfl, rfl, rfl, rfl, rfl, rfl, rfl, rfl, rfl, rfl, rfl, rfl, rfl, trivial⟩, by show (D.getD (((idxH D n D.length).getD x []).getD iL 0) rl0).unl.length - (j + 1) < (D.getD (((idxH D n D.length).getD x []).getD iL 0) rl0).unl.length - j; omega⟩
            ·
              have hmk3 : cs.getD ((D.getD (((idxH D n D.length).getD x []).getD iL 0) rl0).unl.getD j 0) 0 = k → bs3.getD ((D.getD (((idxH D n D.length).getD x []).getD iL 0) rl0).unl.getD j 0) false = true := fun e => absurd (by rw [e]) (of_decide_eq_false hb108)
              refine TL_gs rfl rfl rfl rfl ?_
              refine TL_gs rfl rfl rfl rfl ?_
              refine TL_gs rfl rfl rfl rfl ?_
              refine TL_gs rfl rfl rfl rfl ?_
              refine TL_gs rfl rfl rfl rfl ?_
              refine TL_q rfl (QV_pickF rfl rfl) ?_
              refine TL_nil ?_
              refine W_condF (c := Operand.tmp 114) (by kernel_rfl) rfl ?_
              refine W_skip (by kernel_rfl) ?_
              -- R22
              refine W_reg (l := [⟨some 122, Op.binOp BinOp.add 3 (Operand.tmp 98) (Operand.const (Value.int IntKind.i64 1)) 3, 3, none⟩, ⟨some 98, Op.move (Operand.tmp 122), 3, none⟩]) (by kernel_rfl) (by kernel_rfl) ?_
              refine TL_q rfl (QV_add (r := ((j + 1 : Nat) : Int)) rfl rfl (by omega) (by omega) (by omega)) ?_
              refine TL_q rfl (QV_move rfl) ?_
              refine TL_nil ?_
              first
                | exact ⟨(j + 1, ⟨bs3, st3, sv3⟩), ⟨by omega, hri3, fr3, hrm3, hms3, hex3.1, hex3.2.1, hex3.2.2.snoc hjl hmk3⟩, ⟨rfl, rfl, rfl, rfl, rfl, rfl, rfl, rfl, rfl, rfl, rfl, rfl, rfl, rfl, rfl, trivial⟩, by show (D.getD (((idxH D n D.length).getD x []).getD iL 0) rl0).unl.length - (j + 1) < (D.getD (((idxH D n D.length).getD x []).getD iL 0) rl0).unl.length - j; omega⟩
                | exact ⟨(j + 1, ⟨bs3.set ((D.getD (((idxH D n D.length).getD x []).getD iL 0) rl0).unl.getD j 0) true, ((D.getD (((idxH D n D.length).getD x []).getD iL 0) rl0).unl.getD j 0) :: st3, v9⟩), ⟨by omega, hriN, frN, hrmN, (by show unm (bs3.set ((D.getD (((idxH D n D.length).getD x []).getD iL 0) rl0).unl.getD j 0) true) + (((D.getD (((idxH D n D.length).getD x []).getD iL 0) rl0).unl.getD j 0) :: st3).length = _; omega), hex3.1.mono _, hex3.2.1.mono _, (hex3.2.2.mono _).snoc hjl (fun _ => getD_set_eq _ _ _ _ (by rw [hri3.len]; exact hdn))⟩, ⟨rfl, rfl, rfl, rfl, rfl, rfl, rfl, rfl, rfl, rfl, rfl, rfl, rfl, rfl, rfl, trivial⟩, by show (D.getD (((idxH D n D.length).getD x []).getD iL 0) rl0).unl.length - (j + 1) < (D.getD (((idxH D n D.length).getD x []).getD iL 0) rl0).unl.length - j; omega⟩
          ·
            have hje3 : j = (D.getD (((idxH D n D.length).getD x []).getD iL 0) rl0).unl.length := by have := of_decide_eq_false hc99; omega
            refine W_exit 6 (by kernel_rfl) ?_
            show T Try.prog 194 (C Try.f21 [1, 1, 1, 0, 0, 1, 0, 1, 1, 1, 0, 1, 0, 0, 1, 1]) _ _ _
            -- R23
            refine W_reg (l := [⟨some 123, Op.binOp BinOp.add 3 (Operand.tmp 57) (Operand.const (Value.int IntKind.i64 1)) 3, 3, none⟩, ⟨some 57, Op.move (Operand.tmp 123), 3, none⟩]) (by kernel_rfl) (by kernel_rfl) ?_
            refine TL_q rfl (QV_add (r := ((iL + 1 : Nat) : Int)) rfl rfl (by omega) (by omega) (by omega)) ?_
            refine TL_q rfl (QV_move rfl) ?_
            refine TL_nil ?_
            exact ⟨(iL + 1, ⟨bs3, st3, sv3⟩), ⟨by omega, hri3, fr3, hrm3, hms3, hex3.1.snocF hlt (hex3.2.1.app (by have h5 := hex3.2.2; rw [hje3, List.take_length] at h5; exact h5))⟩, ⟨rfl, rfl, rfl, rfl, rfl, rfl, rfl, rfl, rfl, rfl, rfl, rfl, trivial⟩, by show ((idxH D n D.length).getD x []).length - (iL + 1) < ((idxH D n D.length).getD x []).length - iL; omega⟩
      ·
        have hie : iL = ((idxH D n D.length).getD x []).length := by have := of_decide_eq_false hc58; omega
        subst hie
        rw [List.take_length] at hex1
        refine W_exit 2 (by kernel_rfl) ?_
        first
          | exact ⟨⟨bs1, st1, sv1⟩, ⟨hri1.doneX (fun d hd hdk => by
              obtain ⟨r, h1, h2, h3⟩ := hE x d hd
              exact hex1 d (List.mem_flatMap.2 ⟨r, (mem_idxH D n D.length (Nat.le_refl _) hok x r).2 ⟨h1, h2⟩, h3⟩) hdk), fr1, hrm1⟩, ⟨rfl, rfl, rfl, rfl, rfl, rfl, rfl, rfl, rfl, trivial⟩, by show unm bs1 + st1.length < unm bs + (x :: st').length; omega⟩
          | exact ⟨⟨bs5, st5, sv5⟩, ⟨hri5.doneX (fun d hd hdk => by
              obtain ⟨r, h1, h2, h3⟩ := hE x d hd
              rcases List.mem_append.1 h3 with h3 | h3
              · exact hex5.1 d (List.mem_flatMap.2 ⟨r, (mem_idxU D n D.length (Nat.le_refl _) hok x r).2 ⟨h1, h3⟩, by rw [h2]; simp⟩) hdk
              · exact hex5.2 d (List.mem_flatMap.2 ⟨r, (mem_idxE D n D.length (Nat.le_refl _) hok x r).2 ⟨h1, h3⟩, by rw [h2]; simp⟩) hdk), fr5, hrm5⟩, ⟨rfl, rfl, rfl, rfl, rfl, rfl, rfl, rfl, rfl, trivial⟩, by show unm bs5 + st5.length < unm bs + (x :: st').length; omega⟩
    ·
      have hE := hE2 hc51
      obtain ⟨va, hva, hints⟩ := hutab x hx
      obtain ⟨qa, qc, rfl, hqc, hrow1⟩ := hints.nat
      obtain ⟨vb, hvb, hints2⟩ := hetab x hx
      obtain ⟨pa, pc, rfl, hpc, hrow2⟩ := hints2.nat
      refine W_seq (by kernel_rfl) ?_
      refine W_seq (by kernel_rfl) ?_
      -- R24
      refine W_reg (l := [⟨some 124, Op.move (Operand.tmp 5), 34, none⟩, ⟨some 125, Op.move (Operand.tmp 19), 3, none⟩, ⟨some 126, Op.indexAddr 34 (Operand.tmp 124) (Operand.tmp 125), 0, none⟩, ⟨some 127, Op.load 27 (Operand.tmp 126), 27, none⟩, ⟨some 128, Op.call { callee := Callee.builtin Builtin.len, args := #[Operand.tmp 127], argTypes := #[27] }, 3, none⟩, ⟨some 129, Op.move (Operand.const (Value.int IntKind.i64 0)), 3, none⟩]) (by kernel_rfl) (by kernel_rfl) ?_
      refine TL_q rfl (QV_move rfl) ?_
      refine TL_q rfl (QV_move rfl) ?_
      refine TL_q rfl (QV_idx1 rfl rfl el34 sz27 (hx)) ?_
      refine TL_q rfl (QV_load rfl one27 (cel_fr hva fr (hC _ htu))) ?_
      refine TL_q rfl (QV_len rfl el27) ?_
      refine TL_q rfl (QV_move rfl) ?_
      refine TL_nil ?_
      refine W_block 8 (by kernel_rfl) ?_
      refine W_loop (ι := Nat × RS) (fun i w4 => i.1 ≤ ((idxU D n D.length).getD x []).length ∧ RI n k root cs E bs0 i.2.bs i.2.st (fun y => y = x) ∧ Fr (fun g => g = m) w w4 ∧ RM w4.heap w.heap.size m i.2.bs i.2.sv i.2.st ∧ unm i.2.bs + i.2.st.length = unm bs + st'.length ∧ MkL cs k i.2.bs ((((idxU D n D.length).getD x []).take i.1).flatMap (fun r => [(D.getD r rl0).head]))) (fun i => [(1, .int .i64 (k : Int)), (2, .slice (some ⟨cb, 0, none⟩) n n), (3, .slice ra D.length rc), (4, .slice (some ⟨tb, 0, none⟩) n n), (5, .slice (some ⟨tu, 0, none⟩) n n), (6, .slice (some ⟨te, 0, none⟩) n n), (7, .slice (some ⟨m, 0, none⟩) n n), (8, .bool fwd), (18, i.2.sv), (19, .int .i64 (x : Int)), (127, .slice qa ((idxU D n D.length).getD x []).length qc), (128, .int .i64 (((idxU D n D.length).getD x []).length : Nat)), (129, .int .i64 (i.1 : Int))]) (fun i => ((idxU D n D.length).getD x []).length - i.1) (0, ⟨bs, st', .slice (some ⟨sg, 0, none⟩) st'.length sc⟩) (by kernel_rfl) ?_ ?_ ?_
      · exact ⟨Nat.zero_le _, hriP, fr, hrmP, rfl, MkL.nil⟩
      · exact ⟨rfl, rfl, rfl, rfl, rfl, rfl, rfl, rfl, rfl, rfl, rfl, rfl, rfl, trivial⟩
      rintro ⟨i, bs4, st4, sv4⟩ w4 ⟨hi4, hri4, fr4, hrm4, hms4, hex4⟩
      dsimp only at hi4 hri4 fr4 hrm4 hms4 hex4 ⊢
      have hmm4 := hri4.m
      have hsz4 := fr4.size
      refine W_seq (by kernel_rfl) ?_
      -- R25
      refine W_reg (l := [⟨some 130, Op.binOp BinOp.lss 3 (Operand.tmp 129) (Operand.tmp 128) 3, 0, none⟩]) (by kernel_rfl) (by kernel_rfl) ?_
      refine TL_q rfl (QV_lss rfl rfl) ?_
      refine TL_nil ?_
      refine W_seq (by kernel_rfl) ?_
      refine W_cond (c := Operand.tmp 130) (by kernel_rfl) rfl (fun hc130 => ?_) (fun hc130 => ?_)
      ·
        have hlt : i < ((idxU D n D.length).getD x []).length := by have := of_decide_eq_true hc130; omega
        have hush := idxU_short D n D.length (Nat.le_refl _) x
        rw [show (D.map Rl.rd).take D.length = D.map Rl.rd by rw [List.take_of_length_le (by simp)]] at hush
        obtain ⟨b1, o1, rfl, hb1C, hc1⟩ := hrow1 (by omega)
        obtain ⟨hrl, hrh⟩ := (mem_idxU D n D.length (Nat.le_refl _) hok x _).1 (getD_mem 0 hlt)
        obtain ⟨rb, ro, rfl, hrB, hrc2⟩ := hrul (by omega)
        obtain ⟨g1, -⟩ := hrc2 _ hrl
        have hdn := (hok _ (getD_mem rl0 hrl)).1
        refine W_skip (by kernel_rfl) ?_
        refine W_seq (by kernel_rfl) ?_
        refine W_block 9 (by kernel_rfl) ?_
        refine W_seq (by kernel_rfl) ?_
        -- R26
        refine W_reg (l := [⟨some 131, Op.indexAddr 27 (Operand.tmp 127) (Operand.tmp 129), 0, none⟩, ⟨some 132, Op.load 3 (Operand.tmp 131), 3, none⟩, ⟨some 27, Op.assign (Operand.tmp 132), 3, none⟩]) (by kernel_rfl) (by kernel_rfl) ?_
        refine TL_q rfl (QV_idxO rfl rfl el27 sz3 (hlt)) ?_
        refine TL_q rfl (QV_load rfl one3 (cel_fr (hc1 i hlt) fr4 (hC _ hb1C))) ?_
        refine TL_q rfl (QV_assign rfl) ?_
        refine TL_nil ?_
        refine W_seq (by kernel_rfl) ?_
        -- R27
        refine W_reg (l := [⟨some 133, Op.move (Operand.tmp 3), 22, none⟩, ⟨some 134, Op.move (Operand.tmp 27), 3, none⟩, ⟨some 135, Op.indexAddr 22 (Operand.tmp 133) (Operand.tmp 134), 0, none⟩, ⟨some 136, Op.fieldAddr 33 (Operand.tmp 135) 0, 0, none⟩, ⟨some 137, Op.load 3 (Operand.tmp 136), 3, none⟩, ⟨some 28, Op.assign (Operand.tmp 137), 3, none⟩]) (by kernel_rfl) (by kernel_rfl) ?_
        refine TL_q rfl (QV_move rfl) ?_
        refine TL_q rfl (QV_move rfl) ?_
        refine TL_q rfl (QV_idx rfl rfl el22 sz33 (hrl)) ?_
        refine TL_q rfl (QV_field0 rfl fld33_0) ?_
        refine TL_q rfl (QV_load rfl one3 (cel_fr g1 fr4 (hB _ hrB))) ?_
        refine TL_q rfl (QV_assign rfl) ?_
        refine TL_nil ?_
        refine W_seq (by kernel_rfl) ?_
        -- R28
        refine W_reg (l := [⟨some 138, Op.move (Operand.tmp 2), 27, none⟩, ⟨some 139, Op.move (Operand.tmp 28), 3, none⟩, ⟨some 140, Op.indexAddr 27 (Operand.tmp 138) (Operand.tmp 139), 0, none⟩, ⟨some 141, Op.load 3 (Operand.tmp 140), 3, none⟩, ⟨some 142, Op.move (Operand.tmp 1), 3, none⟩, ⟨some 143, Op.binOp BinOp.eql 3 (Operand.tmp 141) (Operand.tmp 142) 3, 4, none⟩, ⟨some 144, Op.move (Operand.tmp 143), 4, none⟩, ⟨some 145, Op.move (Operand.tmp 7), 37, some (6, true)⟩, ⟨some 146, Op.move (Operand.tmp 28), 3, some (6, true)⟩, ⟨some 147, Op.indexAddr 37 (Operand.tmp 145) (Operand.tmp 146), 0, some (6, true)⟩, ⟨some 148, Op.load 4 (Operand.tmp 147), 4, some (6, true)⟩, ⟨some 149, Op.unOp UnOp.not 4 (Operand.tmp 148), 4, some (6, true)⟩, ⟨some 150, Op.pick (Operand.tmp 144) (Operand.tmp 149) (Operand.const (Value.bool false)), 4, none⟩]) (by kernel_rfl) (by kernel_rfl) ?_
        refine TL_q rfl (QV_move rfl) ?_
        refine TL_q rfl (QV_move rfl) ?_
        refine TL_q rfl (QV_idx1 rfl rfl el27 sz3 (hdn)) ?_
        refine TL_q rfl (QV_load rfl one3 ((hcs.fr fr4 (fun e => hcm e)).cN (by rw [hcl]; exact hdn))) ?_
        refine TL_q rfl (QV_move rfl) ?_
        refine TL_q rfl (QV_eql rfl rfl) ?_
        refine TL_q rfl (QV_move rfl) ?_
        refine TL_cases (t := 144) rfl (fun hb144 => ?_) (fun hb144 => ?_)
        ·
          have hk : cs.getD ((D.getD (((idxU D n D.length).getD x []).getD i 0) rl0).head) 0 = k := by have := of_decide_eq_true hb144; omega
          refine TL_gq rfl rfl rfl rfl (QV_move rfl) ?_
          refine TL_gq rfl rfl rfl rfl (QV_move rfl) ?_
          refine TL_gq rfl rfl rfl rfl (QV_idx1 rfl rfl el37 sz4 (hdn)) ?_
          refine TL_gq rfl rfl rfl rfl (QV_load rfl one4 (hrm4.mrk.cB (by rw [hri4.len]; exact hdn))) ?_
          refine TL_gq rfl rfl rfl rfl (QV_not rfl) ?_
          refine TL_q rfl (QV_pickT rfl rfl) ?_
          refine TL_nil ?_
          refine W_cond (c := Operand.tmp 150) (by kernel_rfl) rfl (fun hc150 => ?_) (fun hc150 => ?_)
          ·
            have hf : bs4.getD ((D.getD (((idxU D n D.length).getD x []).getD i 0) rl0).head) false = false := by simpa using hc150
            refine W_seq (by kernel_rfl) ?_
            -- R29
            refine W_reg (l := [⟨some 151, Op.move (Operand.tmp 7), 37, none⟩, ⟨some 152, Op.move (Operand.tmp 28), 3, none⟩, ⟨some 153, Op.indexAddr 37 (Operand.tmp 151) (Operand.tmp 152), 0, none⟩, ⟨none, Op.store 4 (Operand.tmp 153) (Operand.const (Value.bool true)), 0, none⟩]) (by kernel_rfl) (by kernel_rfl) ?_
            refine TL_q rfl (QV_move rfl) ?_
            refine TL_q rfl (QV_move rfl) ?_
            refine TL_q rfl (QV_idx1 rfl rfl el37 sz4 (hdn)) ?_
            refine TL_e (EV_store rfl rfl rfl sz4 hrm4.mrk (by rw [bools_len, hri4.len]; exact hdn) fun w7 u7 => ?_)
            obtain ⟨sa7, sc7, e7, -⟩ := hrm4.row.form
            refine TL_nil ?_
            -- R30
            refine W_reg (l := [⟨some 154, Op.move (Operand.tmp 18), 27, none⟩, ⟨some 155, Op.move (Operand.tmp 28), 3, none⟩, ⟨some 156, Op.buildSlice 27 1 #[(0, Operand.tmp 155)], 27, none⟩, ⟨some 157, Op.call { callee := Callee.builtin Builtin.append, args := #[Operand.tmp 154, Operand.tmp 156], argTypes := #[27, 27] }, 27, none⟩, ⟨some 18, Op.assign (Operand.tmp 157), 27, none⟩]) (by kernel_rfl) (by kernel_rfl) ?_
            refine TL_q rfl (QV_move rfl) ?_
            refine TL_q rfl (QV_move rfl) ?_
            refine TL_e (EV_lit1 rfl rfl rfl el27 in3 rfl fun w8 h8 => ?_)
            refine TL_e (EV_append rfl rfl rfl el27 in3 rfl (by decide) ((hrm4.row.fr u7.fr (fun g hg e => by have := hrm4.own g hg; omega)).fr h8.fr (fun _ _ h => h)) rfl (news1 h8.blk) (one1 rfl) (by omega) (by omega) fun v9 w9 hrow9 h89 hat9 => ?_)
            have hrmN := hrm4.push hms0 (by omega) u7 h8 hrow9 h89 hat9
            have frN := hrm4.frPush fr4 u7 h8 h89
            have hriN := hri4.mark hdn hk hf
            have hmsN := unm_set bs4 ((D.getD (((idxU D n D.length).getD x []).getD i 0) rl0).head) (by rw [hri4.len]; exact hdn) hf
            have hslN : (((D.getD (((idxU D n D.length).getD x []).getD i 0) rl0).head) :: st4).length = st4.length + 1 := rfl
            refine TL_q rfl (QV_assign rfl) ?_
            refine TL_nil ?_
            -- R31
            refine W_reg (l := [⟨some 158, Op.binOp BinOp.add 3 (Operand.tmp 129) (Operand.const (Value.int IntKind.i64 1)) 3, 3, none⟩, ⟨some 129, Op.move (Operand.tmp 158), 3, none⟩]) (by kernel_rfl) (by kernel_rfl) ?_
            refine TL_q rfl (QV_add (r := ((i + 1 : Nat) : Int)) rfl rfl (by omega) (by omega) (by omega)) ?_
            refine TL_q rfl (QV_move rfl) ?_
            refine TL_nil ?_
            first
              | exact ⟨(i + 1, ⟨bs4, st4, sv4⟩), ⟨by omega, hri4, fr4, hrm4, hms4, hex4.snocF hlt (fun y hy hyk => by rw [List.mem_singleton.1 hy] at hyk ⊢; exact hmk4 hyk)⟩, ⟨rfl, rfl, rfl, rfl, rfl, rfl, rfl, rfl, rfl, rfl, rfl, rfl, rfl, trivial⟩, by show ((idxU D n D.length).getD x []).length - (i + 1) < ((idxU D n D.length).getD x []).length - i; omega⟩
              | exact ⟨(i + 1, ⟨bs4.set ((D.getD (((idxU D n D.length).getD x []).getD i 0) rl0).head) true, ((D.getD (((idxU D n D.length).getD x []).getD i 0) rl0).head) :: st4, v9⟩), ⟨by omega, hriN, frN, hrmN, (by show unm (bs4.set ((D.getD (((idxU D n D.length).getD x []).getD i 0) rl0).head) true) + (((D.getD (((idxU D n D.length).getD x []).getD i 0) rl0).head) :: st4).length = _; omega), (hex4.mono _).snocF hlt (fun y hy hyk => by rw [List.mem_singleton.1 hy] at hyk ⊢; exact getD_set_eq _ _ _ _ (by rw [hri4.len]; exact hdn))⟩, ⟨rfl, rfl, rfl, rfl, rfl, rfl, rfl, rfl, rfl, rfl, rfl, rfl, rfl, trivial⟩, by show ((idxU D n D.length).getD x []).length - (i + 1) < ((idxU D n D.length).getD x []).length - i; omega⟩
          ·
            have hmk4 : cs.getD ((D.getD (((idxU D n D.length).getD x []).getD i 0) rl0).head) 0 = k → bs4.getD ((D.getD (((idxU D n D.length).getD x []).getD i 0) rl0).head) false = true := fun _ => by simpa using hc150
            refine W_skip (by kernel_rfl) ?_
            -- R31
            refine W_reg (l := [⟨some 158, Op.binOp BinOp.add 3 (Operand.tmp 129) (Operand.const (Value.int IntKind.i64 1)) 3, 3, none⟩, ⟨some 129, Op.move (Operand.tmp 158), 3, none⟩]) (by kernel_rfl) (by kernel_rfl) ?_
            refine TL_q rfl (QV_add (r := ((i + 1 : Nat) : Int)) rfl rfl (by omega) (by omega) (by omega)) ?_
            refine TL_q rfl (QV_move rfl) ?_
            refine TL_nil ?_
            first
              | exact ⟨(i + 1, ⟨bs4, st4, sv4⟩), ⟨by omega, hri4, fr4, hrm4, hms4, hex4.snocF hlt (fun y hy hyk => by rw [List.mem_singleton.1 hy] at hyk ⊢; exact hmk4 hyk)⟩, ⟨rfl, rfl, rfl, rfl, rfl, rfl, rfl, rfl, rfl, rfl, rfl, rfl, rfl, trivial⟩, by show ((idxU D n D.length).getD x []).length - (i + 1) < ((idxU D n D.length).getD x []).length - i; omega⟩
              | exact ⟨(i + 1, ⟨bs4.set ((D.getD (((idxU D n D.length).getD x []).getD i 0) rl0).head) true, ((D.getD (((idxU D n D.length).getD x []).getD i 0) rl0).head) :: st4, v9⟩), ⟨by omega, hriN, frN, hrmN, (by show unm (bs4.set ((D.getD (((idxU D n D.length).getD x []).getD i 0) rl0).head) true) + (((D.getD (((idxU D n D.length).getD x []).getD i 0) rl0).head) :: st4).length = _; omega), (hex4.mono _).snocF hlt (fun y hy hyk => by rw [List.mem_singleton.1 hy] at hyk ⊢; exact getD_set_eq _ _ _ _ (by rw [hri4.len]; exact hdn))⟩, ⟨rfl, rfl, rfl, rfl, rfl, rfl, rfl, rfl, rfl, rfl, rfl, rfl, rfl, trivial⟩, by show ((idxU D n D.length).getD x []).length - (i + 1) < ((idxU D n D.length).getD x []).length - i; omega⟩
        ·
          have hmk4 : cs.getD ((D.getD (((idxU D n D.length).getD x []).getD i 0) rl0).head) 0 = k → bs4.getD ((D.getD (((idxU D n D.length).getD x []).getD i 0) rl0).head) false = true := fun e => absurd (by rw [e]) (of_decide_eq_false hb144)
          refine TL_gs rfl rfl rfl rfl ?_
          refine TL_gs rfl rfl rfl rfl ?_
          refine TL_gs rfl rfl rfl rfl ?_
          refine TL_gs rfl rfl rfl rfl ?_
          refine TL_gs rfl rfl rfl rfl ?_
          refine TL_q rfl (QV_pickF rfl rfl) ?_
          refine TL_nil ?_
          refine W_condF (c := Operand.tmp 150) (by kernel_rfl) rfl ?_
          refine W_skip (by kernel_rfl) ?_
          -- R31
          refine W_reg (l := [⟨some 158, Op.binOp BinOp.add 3 (Operand.tmp 129) (Operand.const (Value.int IntKind.i64 1)) 3, 3, none⟩, ⟨some 129, Op.move (Operand.tmp 158), 3, none⟩]) (by kernel_rfl) (by kernel_rfl) ?_
          refine TL_q rfl (QV_add (r := ((i + 1 : Nat) : Int)) rfl rfl (by omega) (by omega) (by omega)) ?_
          refine TL_q rfl (QV_move rfl) ?_
          refine TL_nil ?_
          first
            | exact ⟨(i + 1, ⟨bs4, st4, sv4⟩), ⟨by omega, hri4, fr4, hrm4, hms4, hex4.snocF hlt (fun y hy hyk => by rw [List.mem_singleton.1 hy] at hyk ⊢; exact hmk4 hyk)⟩, ⟨rfl, rfl, rfl, rfl, rfl, rfl, rfl, rfl, rfl, rfl, rfl, rfl, rfl, trivial⟩, by show ((idxU D n D.length).getD x []).length - (i + 1) < ((idxU D n D.length).getD x []).length - i; omega⟩
            | exact ⟨(i + 1, ⟨bs4.set ((D.getD (((idxU D n D.length).getD x []).getD i 0) rl0).head) true, ((D.getD (((idxU D n D.length).getD x []).getD i 0) rl0).head) :: st4, v9⟩), ⟨by omega, hriN, frN, hrmN, (by show unm (bs4.set ((D.getD (((idxU D n D.length).getD x []).getD i 0) rl0).head) true) + (((D.getD (((idxU D n D.length).getD x []).getD i 0) rl0).head) :: st4).length = _; omega), (hex4.mono _).snocF hlt (fun y hy hyk => by rw [List.mem_singleton.1 hy] at hyk ⊢; exact getD_set_eq _ _ _ _ (by rw [hri4.len]; exact hdn))⟩, ⟨rfl, rfl, rfl, rfl, rfl, rfl, rfl, rfl, rfl, rfl, rfl, rfl, rfl, trivial⟩, by show ((idxU D n D.length).getD x []).length - (i + 1) < ((idxU D n D.length).getD x []).length - i; omega⟩
      ·
        have hie : i = ((idxU D n D.length).getD x []).length := by have := of_decide_eq_false hc130; omega
        subst hie
        rw [List.take_length] at hex4
        refine W_exit 8 (by kernel_rfl) ?_
        show T Try.prog 194 (C Try.f21 [1, 1, 1, 1, 1, 0, 1, 0, 0, 1, 1]) _ _ _
        refine W_seq (by kernel_rfl) ?_
        -- R32
        refine W_reg (l := [⟨some 159, Op.move (Operand.tmp 6), 34, none⟩, ⟨some 160, Op.move (Operand.tmp 19), 3, none⟩, ⟨some 161, Op.indexAddr 34 (Operand.tmp 159) (Operand.tmp 160), 0, none⟩, ⟨some 162, Op.load 27 (Operand.tmp 161), 27, none⟩, ⟨some 163, Op.call { callee := Callee.builtin Builtin.len, args := #[Operand.tmp 162], argTypes := #[27] }, 3, none⟩, ⟨some 164, Op.move (Operand.const (Value.int IntKind.i64 0)), 3, none⟩]) (by kernel_rfl) (by kernel_rfl) ?_
        refine TL_q rfl (QV_move rfl) ?_
        refine TL_q rfl (QV_move rfl) ?_
        refine TL_q rfl (QV_idx1 rfl rfl el34 sz27 (hx)) ?_
        refine TL_q rfl (QV_load rfl one27 (cel_fr hvb fr4 (hC _ hte))) ?_
        refine TL_q rfl (QV_len rfl el27) ?_
        refine TL_q rfl (QV_move rfl) ?_
        refine TL_nil ?_
        refine W_block 10 (by kernel_rfl) ?_
        refine W_loop (ι := Nat × RS) (fun i w5 => i.1 ≤ ((idxE D n D.length).getD x []).length ∧ RI n k root cs E bs0 i.2.bs i.2.st (fun y => y = x) ∧ Fr (fun g => g = m) w w5 ∧ RM w5.heap w.heap.size m i.2.bs i.2.sv i.2.st ∧ unm i.2.bs + i.2.st.length = unm bs + st'.length ∧ MkL cs k i.2.bs (((idxU D n D.length).getD x []).flatMap (fun r => [(D.getD r rl0).head])) ∧ MkL cs k i.2.bs ((((idxE D n D.length).getD x []).take i.1).flatMap (fun r => [(D.getD r rl0).head]))) (fun i => [(1, .int .i64 (k : Int)), (2, .slice (some ⟨cb, 0, none⟩) n n), (3, .slice ra D.length rc), (4, .slice (some ⟨tb, 0, none⟩) n n), (5, .slice (some ⟨tu, 0, none⟩) n n), (6, .slice (some ⟨te, 0, none⟩) n n), (7, .slice (some ⟨m, 0, none⟩) n n), (8, .bool fwd), (18, i.2.sv), (162, .slice pa ((idxE D n D.length).getD x []).length pc), (163, .int .i64 (((idxE D n D.length).getD x []).length : Nat)), (164, .int .i64 (i.1 : Int))]) (fun i => ((idxE D n D.length).getD x []).length - i.1) (0, ⟨bs4, st4, sv4⟩) (by kernel_rfl) ?_ ?_ ?_
        · exact ⟨Nat.zero_le _, hri4, fr4, hrm4, hms4, hex4, MkL.nil⟩
        · exact ⟨rfl, rfl, rfl, rfl, rfl, rfl, rfl, rfl, rfl, rfl, rfl, rfl, trivial⟩
        rintro ⟨i, bs5, st5, sv5⟩ w5 ⟨hi5, hri5, fr5, hrm5, hms5, hex5⟩
        dsimp only at hi5 hri5 fr5 hrm5 hms5 hex5 ⊢
        have hmm5 := hri5.m
        have hsz5 := fr5.size
        refine W_seq (by kernel_rfl) ?_
        -- R33
        refine W_reg (l := [⟨some 165, Op.binOp BinOp.lss 3 (Operand.tmp 164) (Operand.tmp 163) 3, 0, none⟩]) (by kernel_rfl) (by kernel_rfl) ?_
        refine TL_q rfl (QV_lss rfl rfl) ?_
        refine TL_nil ?_
        refine W_seq (by kernel_rfl) ?_
        refine W_cond (c := Operand.tmp 165) (by kernel_rfl) rfl (fun hc165 => ?_) (fun hc165 => ?_)
        ·
          have hlt : i < ((idxE D n D.length).getD x []).length := by have := of_decide_eq_true hc165; omega
          have hush := idxE_short D n D.length (Nat.le_refl _) x
          rw [show (D.map Rl.rd).take D.length = D.map Rl.rd by rw [List.take_of_length_le (by simp)]] at hush
          obtain ⟨b1, o1, rfl, hb1C, hc1⟩ := hrow2 (by omega)
          obtain ⟨hrl, hrh⟩ := (mem_idxE D n D.length (Nat.le_refl _) hok x _).1 (getD_mem 0 hlt)
          obtain ⟨rb, ro, rfl, hrB, hrc2⟩ := hrul (by omega)
          obtain ⟨g1, -⟩ := hrc2 _ hrl
          have hdn := (hok _ (getD_mem rl0 hrl)).1
          refine W_skip (by kernel_rfl) ?_
          refine W_seq (by kernel_rfl) ?_
          refine W_block 11 (by kernel_rfl) ?_
          refine W_seq (by kernel_rfl) ?_
          -- R34
          refine W_reg (l := [⟨some 166, Op.indexAddr 27 (Operand.tmp 162) (Operand.tmp 164), 0, none⟩, ⟨some 167, Op.load 3 (Operand.tmp 166), 3, none⟩, ⟨some 30, Op.assign (Operand.tmp 167), 3, none⟩]) (by kernel_rfl) (by kernel_rfl) ?_
          refine TL_q rfl (QV_idxO rfl rfl el27 sz3 (hlt)) ?_
          refine TL_q rfl (QV_load rfl one3 (cel_fr (hc1 i hlt) fr5 (hC _ hb1C))) ?_
          refine TL_q rfl (QV_assign rfl) ?_
          refine TL_nil ?_
          refine W_seq (by kernel_rfl) ?_
          -- R35
          refine W_reg (l := [⟨some 168, Op.move (Operand.tmp 3), 22, none⟩, ⟨some 169, Op.move (Operand.tmp 30), 3, none⟩, ⟨some 170, Op.indexAddr 22 (Operand.tmp 168) (Operand.tmp 169), 0, none⟩, ⟨some 171, Op.fieldAddr 33 (Operand.tmp 170) 0, 0, none⟩, ⟨some 172, Op.load 3 (Operand.tmp 171), 3, none⟩, ⟨some 31, Op.assign (Operand.tmp 172), 3, none⟩]) (by kernel_rfl) (by kernel_rfl) ?_
          refine TL_q rfl (QV_move rfl) ?_
          refine TL_q rfl (QV_move rfl) ?_
          refine TL_q rfl (QV_idx rfl rfl el22 sz33 (hrl)) ?_
          refine TL_q rfl (QV_field0 rfl fld33_0) ?_
          refine TL_q rfl (QV_load rfl one3 (cel_fr g1 fr5 (hB _ hrB))) ?_
          refine TL_q rfl (QV_assign rfl) ?_
          refine TL_nil ?_
          refine W_seq (by kernel_rfl) ?_
          -- R36
          refine W_reg (l := [⟨some 173, Op.move (Operand.tmp 2), 27, none⟩, ⟨some 174, Op.move (Operand.tmp 31), 3, none⟩, ⟨some 175, Op.indexAddr 27 (Operand.tmp 173) (Operand.tmp 174), 0, none⟩, ⟨some 176, Op.load 3 (Operand.tmp 175), 3, none⟩, ⟨some 177, Op.move (Operand.tmp 1), 3, none⟩, ⟨some 178, Op.binOp BinOp.eql 3 (Operand.tmp 176) (Operand.tmp 177) 3, 4, none⟩, ⟨some 179, Op.move (Operand.tmp 178), 4, none⟩, ⟨some 180, Op.move (Operand.tmp 7), 37, some (6, true)⟩, ⟨some 181, Op.move (Operand.tmp 31), 3, some (6, true)⟩, ⟨some 182, Op.indexAddr 37 (Operand.tmp 180) (Operand.tmp 181), 0, some (6, true)⟩, ⟨some 183, Op.load 4 (Operand.tmp 182), 4, some (6, true)⟩, ⟨some 184, Op.unOp UnOp.not 4 (Operand.tmp 183), 4, some (6, true)⟩, ⟨some 185, Op.pick (Operand.tmp 179) (Operand.tmp 184) (Operand.const (Value.bool false)), 4, none⟩]) (by kernel_rfl) (by kernel_rfl) ?_
          refine TL_q rfl (QV_move rfl) ?_
          refine TL_q rfl (QV_move rfl) ?_
          refine TL_q rfl (QV_idx1 rfl rfl el27 sz3 (hdn)) ?_
          refine TL_q rfl (QV_load rfl one3 ((hcs.fr fr5 (fun e => hcm e)).cN (by rw [hcl]; exact hdn))) ?_
          refine TL_q rfl (QV_move rfl) ?_
          refine TL_q rfl (QV_eql rfl rfl) ?_
          refine TL_q rfl (QV_move rfl) ?_
          refine TL_cases (t := 179) rfl (fun hb179 => ?_) (fun hb179 => ?_)
          ·
            have hk : cs.getD ((D.getD (((idxE D n D.length).getD x []).getD i 0) rl0).head) 0 = k := by have := of_decide_eq_true hb179; omega
            refine TL_gq rfl rfl rfl rfl (QV_move rfl) ?_
            refine TL_gq rfl rfl rfl rfl (QV_move rfl) ?_
            refine TL_gq rfl rfl rfl rfl (QV_idx1 rfl rfl el37 sz4 (hdn)) ?_
            refine TL_gq rfl rfl rfl rfl (QV_load rfl one4 (hrm5.mrk.cB (by rw [hri5.len]; exact hdn))) ?_
            refine TL_gq rfl rfl rfl rfl (QV_not rfl) ?_
            refine TL_q rfl (QV_pickT rfl rfl) ?_
            refine TL_nil ?_
            refine W_cond (c := Operand.tmp 185) (by kernel_rfl) rfl (fun hc185 => ?_) (fun hc185 => ?_)
            ·
              have hf : bs5.getD ((D.getD (((idxE D n D.length).getD x []).getD i 0) rl0).head) false = false := by simpa using hc185
              refine W_seq (by kernel_rfl) ?_
              -- R37
              refine W_reg (l := [⟨some 186, Op.move (Operand.tmp 7), 37, none⟩, ⟨some 187, Op.move (Operand.tmp 31), 3, none⟩, ⟨some 188, Op.indexAddr 37 (Operand.tmp 186) (Operand.tmp 187), 0, none⟩, ⟨none, Op.store 4 (Operand.tmp 188) (Operand.const (Value.bool true)), 0, none⟩]) (by kernel_rfl) (by kernel_rfl) ?_
              refine TL_q rfl (QV_move rfl) ?_
              refine TL_q rfl (QV_move rfl) ?_
              refine TL_q rfl (QV_idx1 rfl rfl el37 sz4 (hdn)) ?_
              refine TL_e (EV_store rfl rfl rfl sz4 hrm5.mrk (by rw [bools_len, hri5.len]; exact hdn) fun w7 u7 => ?_)
              obtain ⟨sa7, sc7, e7, -⟩ := hrm5.row.form
              refine TL_nil ?_
              -- R38
              refine W_reg (l := [⟨some 189, Op.move (Operand.tmp 18), 27, none⟩, ⟨some 190, Op.move (Operand.tmp 31), 3, none⟩, ⟨some 191, Op.buildSlice 27 1 #[(0, Operand.tmp 190)], 27, none⟩, ⟨some 192, Op.call { callee := Callee.builtin Builtin.append, args := #[Operand.tmp 189, Operand.tmp 191], argTypes := #[27, 27] }, 27, none⟩, ⟨some 18, Op.assign (Operand.tmp 192), 27, none⟩]) (by kernel_rfl) (by kernel_rfl) ?_
              refine TL_q rfl (QV_move rfl) ?_
              refine TL_q rfl (QV_move rfl) ?_
              refine TL_e (EV_lit1 rfl rfl rfl el27 in3 rfl fun w8 h8 => ?_)
              refine TL_e (EV_append rfl rfl rfl el27 in3 rfl (by decide) ((hrm5.row.fr u7.fr (fun g hg e => by have := hrm5.own g hg; omega)).fr h8.fr (fun _ _ h => h)) rfl (news1 h8.blk) (one1 rfl) (by omega) (by omega) fun v9 w9 hrow9 h89 hat9 => ?_)
              have hrmN := hrm5.push hms0 (by omega) u7 h8 hrow9 h89 hat9
              have frN := hrm5.frPush fr5 u7 h8 h89
              have hriN := hri5.mark hdn hk hf
              have hmsN := unm_set bs5 ((D.getD (((idxE D n D.length).getD x []).getD i 0) rl0).head) (by rw [hri5.len]; exact hdn) hf
              have hslN : (((D.getD (((idxE D n D.length).getD x []).getD i 0) rl0).head) :: st5).length = st5.length + 1 := rfl
              refine TL_q rfl (QV_assign rfl) ?_
              refine TL_nil ?_
              -- R39
              refine W_reg (l := [⟨some 193, Op.binOp BinOp.add 3 (Operand.tmp 164) (Operand.const (Value.int IntKind.i64 1)) 3, 3, none⟩, ⟨some 164, Op.move (Operand.tmp 193), 3, none⟩]) (by kernel_rfl) (by kernel_rfl) ?_
              refine TL_q rfl (QV_add (r := ((i + 1 : Nat) : Int)) rfl rfl (by omega) (by omega) (by omega)) ?_
              refine TL_q rfl (QV_move rfl) ?_
              refine TL_nil ?_
              first
                | exact ⟨(i + 1, ⟨bs5, st5, sv5⟩), ⟨by omega, hri5, fr5, hrm5, hms5, hex5.1, hex5.2.snocF hlt (fun y hy hyk => by rw [List.mem_singleton.1 hy] at hyk ⊢; exact hmk5 hyk)⟩, ⟨rfl, rfl, rfl, rfl, rfl, rfl, rfl, rfl, rfl, rfl, rfl, rfl, trivial⟩, by show ((idxE D n D.length).getD x []).length - (i + 1) < ((idxE D n D.length).getD x []).length - i; omega⟩
                | exact ⟨(i + 1, ⟨bs5.set ((D.getD (((idxE D n D.length).getD x []).getD i 0) rl0).head) true, ((D.getD (((idxE D n D.length).getD x []).getD i 0) rl0).head) :: st5, v9⟩), ⟨by omega, hriN, frN, hrmN, (by show unm (bs5.set ((D.getD (((idxE D n D.length).getD x []).getD i 0) rl0).head) true) + (((D.getD (((idxE D n D.length).getD x []).getD i 0) rl0).head) :: st5).length = _; omega), hex5.1.mono _, (hex5.2.mono _).snocF hlt (fun y hy hyk => by rw [List.mem_singleton.1 hy] at hyk ⊢; exact getD_set_eq _ _ _ _ (by rw [hri5.len]; exact hdn))⟩, ⟨rfl, rfl, rfl, rfl, rfl, rfl, rfl, rfl, rfl, rfl, rfl, rfl, trivial⟩, by show ((idxE D n D.length).getD x []).length - (i + 1) < ((idxE D n D.length).getD x []).length - i; omega⟩
            ·
              have hmk5 : cs.getD ((D.getD (((idxE D n D.length).getD x []).getD i 0) rl0).head) 0 = k → bs5.getD ((D.getD (((idxE D n D.length).getD x []).getD i 0) rl0).head) false = true := fun _ => by simpa using hc185
              refine W_skip (by kernel_rfl) ?_
              -- R39
              refine W_reg (l := [⟨some 193, Op.binOp BinOp.add 3 (Operand.tmp 164) (Operand.const (Value.int IntKind.i64 1)) 3, 3, none⟩, ⟨some 164, Op.move (Operand.tmp 193), 3, none⟩]) (by kernel_rfl) (by kernel_rfl) ?_
              refine TL_q rfl (QV_add (r := ((i + 1 : Nat) : Int)) rfl rfl (by omega) (by omega) (by omega)) ?_
              refine TL_q rfl (QV_move rfl) ?_
              refine TL_nil ?_
              first
                | exact ⟨(i + 1, ⟨bs5, st5, sv5⟩), ⟨by omega, hri5, fr5, hrm5, hms5, hex5.1, hex5.2.snocF hlt (fun y hy hyk => by rw [List.mem_singleton.1 hy] at hyk ⊢; exact hmk5 hyk)⟩, ⟨rfl, rfl, rfl, rfl, rfl, rfl, rfl, rfl, rfl, rfl, rfl, rfl, trivial⟩, by show ((idxE D n D.length).getD x []).length - (i + 1) < ((idxE D n D.length).getD x []).length - i; omega⟩
                | exact ⟨(i + 1, ⟨bs5.set ((D.getD (((idxE D n D.length).getD x []).getD i 0) rl0).head) true, ((D.getD (((idxE D n D.length).getD x []).getD i 0) rl0).head) :: st5, v9⟩), ⟨by omega, hriN, frN, hrmN, (by show unm (bs5.set ((D.getD (((idxE D n D.length).getD x []).getD i 0) rl0).head) true) + (((D.getD (((idxE D n D.length).getD x []).getD i 0) rl0).head) :: st5).length = _; omega), hex5.1.mono _, (hex5.2.mono _).snocF hlt (fun y hy hyk => by rw [List.mem_singleton.1 hy] at hyk ⊢; exact getD_set_eq _ _ _ _ (by rw [hri5.len]; exact hdn))⟩, ⟨rfl, rfl, rfl, rfl, rfl, rfl, rfl, rfl, rfl, rfl, rfl, rfl, trivial⟩, by show ((idxE D n D.length).getD x []).length - (i + 1) < ((idxE D n D.length).getD x []).length - i; omega⟩
          ·
            have hmk5 : cs.getD ((D.getD (((idxE D n D.length).getD x []).getD i 0) rl0).head) 0 = k → bs5.getD ((D.getD (((idxE D n D.length).getD x []).getD i 0) rl0).head) false = true := fun e => absurd (by rw [e]) (of_decide_eq_false hb179)
            refine TL_gs rfl rfl rfl rfl ?_
            refine TL_gs rfl rfl rfl rfl ?_
            refine TL_gs rfl rfl rfl rfl ?_
            refine TL_gs rfl rfl rfl rfl ?_
            refine TL_gs rfl rfl rfl rfl ?_
            refine TL_q rfl (QV_pickF rfl rfl) ?_
            refine TL_nil ?_
            refine W_condF (c := Operand.tmp 185) (by kernel_rfl) rfl ?_
            refine W_skip (by kernel_rfl) ?_
            -- R39
            refine W_reg (l := [⟨some 193, Op.binOp BinOp.add 3 (Operand.tmp 164) (Operand.const (Value.int IntKind.i64 1)) 3, 3, none⟩, ⟨some 164, Op.move (Operand.tmp 193), 3, none⟩]) (by kernel_rfl) (by kernel_rfl) ?_
            refine TL_q rfl (QV_add (r := ((i + 1 : Nat) : Int)) rfl rfl (by omega) (by omega) (by omega)) ?_
            refine TL_q rfl (QV_move rfl) ?_
            refine TL_nil ?_
            first
              | exact ⟨(i + 1, ⟨bs5, st5, sv5⟩), ⟨by omega, hri5, fr5, hrm5, hms5, hex5.1, hex5.2.snocF hlt (fun y hy hyk => by rw [List.mem_singleton.1 hy] at hyk ⊢; exact hmk5 hyk)⟩, ⟨rfl, rfl, rfl, rfl, rfl, rfl, rfl, rfl, rfl, rfl, rfl, rfl, trivial⟩, by show ((idxE D n D.length).getD x []).length - (i + 1) < ((idxE D n D.length).getD x []).length - i; omega⟩
              | exact ⟨(i + 1, ⟨bs5.set ((D.getD (((idxE D n D.length).getD x []).getD i 0) rl0).head) true, ((D.getD (((idxE D n D.length).getD x []).getD i 0) rl0).head) :: st5, v9⟩), ⟨by omega, hriN, frN, hrmN, (by show unm (bs5.set ((D.getD (((idxE D n D.length).getD x []).getD i 0) rl0).head) true) + (((D.getD (((idxE D n D.length).getD x []).getD i 0) rl0).head) :: st5).length = _; omega), hex5.1.mono _, (hex5.2.mono _).snocF hlt (fun y hy hyk => by rw [List.mem_singleton.1 hy] at hyk ⊢; exact getD_set_eq _ _ _ _ (by rw [hri5.len]; exact hdn))⟩, ⟨rfl, rfl, rfl, rfl, rfl, rfl, rfl, rfl, rfl, rfl, rfl, rfl, trivial⟩, by show ((idxE D n D.length).getD x []).length - (i + 1) < ((idxE D n D.length).getD x []).length - i; omega⟩
        ·
          have hie : i = ((idxE D n D.length).getD x []).length := by have := of_decide_eq_false hc165; omega
          subst hie
          rw [List.take_length] at hex5
          refine W_exit 10 (by kernel_rfl) ?_
          first
            | exact ⟨⟨bs1, st1, sv1⟩, ⟨hri1.doneX (fun d hd hdk => by
                obtain ⟨r, h1, h2, h3⟩ := hE x d hd
                exact hex1 d (List.mem_flatMap.2 ⟨r, (mem_idxH D n D.length (Nat.le_refl _) hok x r).2 ⟨h1, h2⟩, h3⟩) hdk), fr1, hrm1⟩, ⟨rfl, rfl, rfl, rfl, rfl, rfl, rfl, rfl, rfl, trivial⟩, by show unm bs1 + st1.length < unm bs + (x :: st').length; omega⟩
            | exact ⟨⟨bs5, st5, sv5⟩, ⟨hri5.doneX (fun d hd hdk => by
                obtain ⟨r, h1, h2, h3⟩ := hE x d hd
                rcases List.mem_append.1 h3 with h3 | h3
                · exact hex5.1 d (List.mem_flatMap.2 ⟨r, (mem_idxU D n D.length (Nat.le_refl _) hok x r).2 ⟨h1, h3⟩, by rw [h2]; simp⟩) hdk
                · exact hex5.2 d (List.mem_flatMap.2 ⟨r, (mem_idxE D n D.length (Nat.le_refl _) hok x r).2 ⟨h1, h3⟩, by rw [h2]; simp⟩) hdk), fr5, hrm5⟩, ⟨rfl, rfl, rfl, rfl, rfl, rfl, rfl, rfl, rfl, trivial⟩, by show unm bs5 + st5.length < unm bs + (x :: st').length; omega⟩
  ·
    have hnil : st = [] := by have := of_decide_eq_false hc39; exact List.length_eq_zero_iff.1 (by omega)
    subst hnil
    refine W_exit 0 (by kernel_rfl) ?_
    exact ⟨_, rfl, rfl, bs, fr, hrm.mrk, hri.len, hri.keep, fun y hy => hri.reach hroot hrk hy⟩

end Go.Proofs.Qxb6600121a
