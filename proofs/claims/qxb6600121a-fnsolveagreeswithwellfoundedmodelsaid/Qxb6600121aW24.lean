/-
   Walks written by program (wip/gen).
-/
import Derived.Test.Qxb6600121aW28
import Derived.Test.Qxb6600121aFin
namespace Go.Proofs.Qxb6600121a
open Go Go.Proofs
set_option linter.unusedVariables false
set_option linter.unusedSimpArgs false

theorem sg_len {n : Nat} {atoms ends : List Nat} (hp : Part n atoms ends) {k : Nat} (hk : k < ends.length) : (sg atoms ends k).length = ends.getD k 0 - prevE ends k := by
  have := (hp.inc k hk).2
  have := hp.len
  unfold sg
  rw [List.length_drop, List.length_take]
  omega
theorem sg_getD {n : Nat} {atoms ends : List Nat} (hp : Part n atoms ends) {k j : Nat} (hk : k < ends.length) (hj : j < (sg atoms ends k).length) : (sg atoms ends k).getD j 0 = atoms.getD (prevE ends k + j) 0 := by
  have h1 := sg_len hp hk
  have h2 := (hp.inc k hk).2
  have h3 := hp.len
  unfold sg
  rw [List.getD_eq_getElem?_getD, List.getElem?_drop, List.getElem?_take, if_pos (by omega), ← List.getD_eq_getElem?_getD]
theorem sg_ints {h : Array Obj} {P : Nat → Prop} {n : Nat} {atoms ends : List Nat} (hp : Part n atoms ends) {k b o c : Nat} (hk : k < ends.length) (hc : atoms.length ≤ c) (hb : P b) (hcel : ∀ j, j < atoms.length → cel h b (o + j) = some (.int .i64 ((atoms.getD j 0 : Nat) : Int))) :
    IntsAt h P (.slice (some ⟨b, o + prevE ends k, none⟩) (ends.getD k 0 - prevE ends k) (c - prevE ends k)) (casts (sg atoms ends k)) := by
  have h1 := sg_len hp hk
  have h2 := (hp.inc k hk).2
  have h3 := hp.len
  refine ⟨some ⟨b, o + prevE ends k, none⟩, c - prevE ends k, by rw [casts_len, h1], by rw [casts_len]; omega, fun e => (by cases e), fun _ => ⟨b, o + prevE ends k, rfl, hb, fun j hj => ?_⟩⟩
  rw [casts_len] at hj
  rw [casts_getD, sg_getD hp hk hj, Nat.add_assoc]
  exact hcel _ (by omega)
/-- What settling all components must keep. -/
structure SlvX (D : List Rl) (n : Nat) (S : SS) (RK : List Nat → List Nat → Nat → SS → Prop) where
  r0 : ∀ atoms ends, Fin' D n atoms ends → RK atoms ends 0 S
  mq : ∀ atoms ends k S, RK atoms ends k S → muq S ≤ 1000000000000
  step : ∀ atoms ends, Fin' D n atoms ends → ∀ k S, k < ends.length → RK atoms ends k S → Stl D n k (sg atoms ends k) S (RK atoms ends (k + 1))
set_option maxRecDepth 10000 in
set_option maxHeartbeats 1000000 in
theorem solveAll (w : World) (L : Lay) (n : Nat) (D : List Rl) (S : SS) (Prot : Nat → Prop) (lv qv : Value) (h : SMF w w L n D S Prot lv qv) (hok : Okay n D) (hl : D.length + tot (D.map Rl.rd) ≤ 1048576) (hn : n ≤ 65536) (RK : List Nat → List Nat → Nat → SS → Prop) (X : SlvX D n S RK) :
    CallsS Try.prog 24 #[.pointer (some ⟨L.s + 9, 0, none⟩), .int .i64 (n : Int)] w (fun v w' => ∃ av ev, v = .tuple #[av, ev, .bool true] ∧ ∃ atoms ends, Fin' D n atoms ends ∧ ∃ S' lv' qv', RK atoms ends ends.length S' ∧ Fr (FX L Prot) w w' ∧
      ∃ Pr : Nat → Prop, (∀ g, Prot g → Pr g) ∧ IntsAt w'.heap Pr av (casts atoms) ∧ IntsAt w'.heap Pr ev (casts ends) ∧ SMF w' w' L n D S' Pr lv' qv') := by
  refine W_fun [4, 5, 6] Try.func24 rfl Try.ntmps24 Try.results24 (Nat.le_of_ble_eq_true rfl) ?_
  refine W_seq (by kernel_rfl) ?_
  -- R0
  refine W_reg (l := [⟨some 4, Op.assign (Operand.const (Value.slice none 0 0)), 27, none⟩, ⟨some 5, Op.assign (Operand.const (Value.slice none 0 0)), 27, none⟩, ⟨some 6, Op.assign (Operand.const (Value.bool false)), 4, none⟩]) (by kernel_rfl) (by kernel_rfl) ?_
  refine TL_q rfl (QV_assign rfl) ?_
  refine TL_q rfl (QV_assign rfl) ?_
  refine TL_q rfl (QV_assign rfl) ?_
  refine TL_nil ?_
  refine W_seq (by kernel_rfl) ?_
  -- R1
  refine W_reg (l := [⟨some 10, Op.move (Operand.tmp 0), 25, none⟩, ⟨some 11, Op.call { callee := Callee.value (Operand.func 15), args := #[Operand.tmp 10], argTypes := #[25] }, 28, none⟩, ⟨some 9, Op.move (Operand.tmp 11), 28, none⟩, ⟨some 12, Op.extract (Operand.tmp 9) 0, 27, none⟩, ⟨some 13, Op.extract (Operand.tmp 9) 1, 27, none⟩, ⟨some 4, Op.assign (Operand.tmp 12), 27, none⟩, ⟨some 5, Op.assign (Operand.tmp 13), 27, none⟩]) (by kernel_rfl) (by kernel_rfl) ?_
  refine TL_q rfl (QV_move rfl) ?_
  refine TL_e (EV_callD rfl rfl rfl call15 (compsF w L n hn D hok hl h.m.c.stat h.m.c.c0 h.m.c.c1) fun r1 w1 hr => ?_)
  obtain ⟨av, ev, rfl, atoms, ends, hfin, f1, hra, hre, hga, hge⟩ := hr
  have hpart := hfin.part
  have hne := hfin.ne
  have hlen := hpart.len
  refine TL_q rfl (QV_move rfl) ?_
  refine TL_q rfl (QV_extract rfl rfl) ?_
  refine TL_q rfl (QV_extract rfl rfl) ?_
  refine TL_q rfl (QV_assign rfl) ?_
  refine TL_q rfl (QV_assign rfl) ?_
  refine TL_nil ?_
  refine W_seq (by kernel_rfl) ?_
  refine W_seq (by kernel_rfl) ?_
  -- R2
  refine W_reg (l := [⟨some 14, Op.move (Operand.tmp 1), 3, none⟩, ⟨some 15, Op.move (Operand.tmp 4), 27, none⟩, ⟨some 16, Op.move (Operand.tmp 5), 27, none⟩, ⟨some 17, Op.call { callee := Callee.value (Operand.func 16), args := #[Operand.tmp 14, Operand.tmp 15, Operand.tmp 16], argTypes := #[3, 27, 27] }, 4, none⟩, ⟨some 18, Op.unOp UnOp.not 4 (Operand.tmp 17), 4, none⟩]) (by kernel_rfl) (by kernel_rfl) ?_
  refine TL_q rfl (QV_move rfl) ?_
  refine TL_q rfl (QV_move rfl) ?_
  refine TL_q rfl (QV_move rfl) ?_
  refine TL_e (EV_callD rfl rfl rfl call16 (partitionWalk w1 (fun _ => True) n hn av ev atoms ends (hra.intsAt (fun _ _ => trivial)) (hre.intsAt (fun _ _ => trivial)) hpart (by omega)) fun r2 w2 hr => ?_)
  obtain ⟨rfl, f2⟩ := hr
  have hra2 := hra.fr f2 (fun _ _ h => h)
  have hre2 := hre.fr f2 (fun _ _ h => h)
  obtain ⟨Pr, hPr⟩ : ∃ Pr : Nat → Prop, Pr = fun g => Prot g ∨ av.ownBlock = some g ∨ ev.ownBlock = some g := ⟨_, rfl⟩
  have h2 : SMF w2 w2 L n D S Pr lv qv := by
    subst hPr
    have s1 := f1.size
    have s2 := f2.size
    have l := h.lt
    have f12 := f1.trans f2
    refine ⟨⟨h.m.c.fr f12 (fun _ h => h.elim), h.m.rl.fr f12 (fun _ _ h => h), h.m.rq.fr f12 (fun _ _ h => h), fun g hg => ⟨(h.m.ol g hg).1, ?_⟩, fun g hg => ⟨(h.m.oq g hg).1, ?_⟩, h.m.d⟩, Fr.refl _ _, ?_⟩
    · rintro (e | e | e)
      · exact (h.m.ol g hg).2 e
      · have := hga g e; have := h.m.rl.lt hg; omega
      · have := hge g e; have := h.m.rl.lt hg; omega
    · rintro (e | e | e)
      · exact (h.m.oq g hg).2 e
      · have := hga g e; have := h.m.rq.lt hg; omega
      · have := hge g e; have := h.m.rq.lt hg; omega
    · rintro g (e | e | e)
      · have := h.p g e; omega
      · have := hga g e; have := hra2.lt e; omega
      · have := hge g e; have := hre2.lt e; omega
  have hIA := hra2.intsAt (S := Pr) (fun g hg => by subst hPr; exact .inr (.inl hg))
  have hIE := hre2.intsAt (S := Pr) (fun g hg => by subst hPr; exact .inr (.inr hg))
  have hIA2 := hIA
  have hIE2 := hIE
  obtain ⟨aa, ca, rfl, hca, hpa⟩ := hIA.nat
  obtain ⟨ae, ce, rfl, hce, hpe⟩ := hIE.nat
  refine TL_q rfl (QV_not rfl) ?_
  refine TL_nil ?_
  refine W_cond (c := Operand.tmp 18) (by kernel_rfl) rfl (fun hc18 => ?_) (fun hc18 => ?_)
  ·
    cases hc18
  ·
    refine W_skip (by kernel_rfl) ?_
    refine W_seq (by kernel_rfl) ?_
    -- R4
    refine W_reg (l := [⟨some 7, Op.assign (Operand.const (Value.int IntKind.i64 0)), 3, none⟩]) (by kernel_rfl) (by kernel_rfl) ?_
    refine TL_q rfl (QV_assign rfl) ?_
    refine TL_nil ?_
    refine W_seq (by kernel_rfl) ?_
    refine W_seq (by kernel_rfl) ?_
    -- R5
    refine W_reg (l := [⟨some 8, Op.assign (Operand.const (Value.int IntKind.i64 0)), 3, none⟩]) (by kernel_rfl) (by kernel_rfl) ?_
    refine TL_q rfl (QV_assign rfl) ?_
    refine TL_nil ?_
    refine W_block 0 (by kernel_rfl) ?_
    refine W_loop (ι := Nat × FS) (fun i w3 => i.1 ≤ ends.length ∧ RK atoms ends i.1 i.2.S ∧ SMF w2 w3 L n D i.2.S Pr i.2.lv i.2.qv) (fun i => [(0, .pointer (some ⟨L.s + 9, 0, none⟩)), (4, .slice aa atoms.length ca), (5, .slice ae ends.length ce), (7, .int .i64 ((prevE ends i.1 : Nat) : Int)), (8, .int .i64 (i.1 : Int))]) (fun i => ends.length - i.1) (0, ⟨S, lv, qv⟩) (by kernel_rfl) ?_ ?_ ?_
    · exact ⟨Nat.zero_le _, X.r0 atoms ends hfin, h2⟩
    · exact ⟨rfl, rfl, rfl, rfl, rfl, trivial⟩
    rintro ⟨k, S3, lv3, qv3⟩ w3 ⟨hk, hrk, h3⟩
    dsimp only at hk hrk h3 ⊢
    refine W_seq (by kernel_rfl) ?_
    refine W_seq (by kernel_rfl) ?_
    -- R6
    refine W_reg (l := [⟨some 21, Op.move (Operand.tmp 8), 3, none⟩, ⟨some 22, Op.move (Operand.tmp 5), 27, none⟩, ⟨some 23, Op.call { callee := Callee.builtin Builtin.len, args := #[Operand.tmp 22], argTypes := #[27] }, 3, none⟩, ⟨some 24, Op.binOp BinOp.lss 3 (Operand.tmp 21) (Operand.tmp 23) 3, 4, none⟩]) (by kernel_rfl) (by kernel_rfl) ?_
    refine TL_q rfl (QV_move rfl) ?_
    refine TL_q rfl (QV_move rfl) ?_
    refine TL_q rfl (QV_len rfl el27) ?_
    refine TL_q rfl (QV_lss rfl rfl) ?_
    refine TL_nil ?_
    refine W_cond (c := Operand.tmp 24) (by kernel_rfl) rfl (fun hc24 => ?_) (fun hc24 => ?_)
    ·
      have hlt : k < ends.length := by have := of_decide_eq_true hc24; omega
      have hinc := hpart.inc k hlt
      have hmono := hpart.ends_le (Nat.le_of_lt hlt)
      obtain ⟨b, o, rfl, hbB, hcel⟩ := hpe (by omega)
      obtain ⟨b3, o3, rfl, hbB3, hcel3⟩ := hpa (by omega)
      have hnf : ∀ g, Pr g → ¬ FX L Pr g := fun g hg e => e.2.2 hg
      have hslice : IntsAt w3.heap Pr (.slice (some ⟨b3, o3 + prevE ends k, none⟩) (ends.getD k 0 - prevE ends k) (ca - prevE ends k)) (casts (sg atoms ends k)) := sg_ints hpart hlt hca hbB3 (fun j hj => cel_fr (hcel3 j hj) h3.f (hnf _ hbB3))
      have hsl := sg_len hpart hlt
      have hsA : ∀ x ∈ sg atoms ends k, x < n := fun x hx => hpart.mem_lt (List.mem_of_mem_take (List.mem_of_mem_drop hx))
      refine W_skip (by kernel_rfl) ?_
      refine W_seq (by kernel_rfl) ?_
      refine W_block 1 (by kernel_rfl) ?_
      refine W_seq (by kernel_rfl) ?_
      -- R8
      refine W_reg (l := [⟨some 27, Op.move (Operand.tmp 0), 25, none⟩, ⟨some 28, Op.move (Operand.tmp 8), 3, none⟩, ⟨some 29, Op.move (Operand.tmp 4), 27, none⟩, ⟨some 30, Op.move (Operand.tmp 7), 3, none⟩, ⟨some 31, Op.move (Operand.tmp 5), 27, none⟩, ⟨some 32, Op.move (Operand.tmp 8), 3, none⟩, ⟨some 33, Op.indexAddr 27 (Operand.tmp 31) (Operand.tmp 32), 0, none⟩, ⟨some 34, Op.load 3 (Operand.tmp 33), 3, none⟩, ⟨some 35, Op.slice 27 (Operand.tmp 29) (some (Operand.tmp 30)) (some (Operand.tmp 34)) none, 27, none⟩, ⟨some 36, Op.call { callee := Callee.value (Operand.func 28), args := #[Operand.tmp 27, Operand.tmp 28, Operand.tmp 35], argTypes := #[25, 3, 27] }, 0, none⟩]) (by kernel_rfl) (by kernel_rfl) ?_
      refine TL_q rfl (QV_move rfl) ?_
      refine TL_q rfl (QV_move rfl) ?_
      refine TL_q rfl (QV_move rfl) ?_
      refine TL_q rfl (QV_move rfl) ?_
      refine TL_q rfl (QV_move rfl) ?_
      refine TL_q rfl (QV_move rfl) ?_
      refine TL_q rfl (QV_idxO rfl rfl el27 sz3 (hlt)) ?_
      refine TL_q rfl (QV_load rfl one3 (cel_fr (hcel k hlt) h3.f (hnf _ hbB))) ?_
      refine TL_q rfl (QV_slice2 rfl rfl rfl el27 sz3 (by omega) (by omega)) ?_
      refine TL_e (EV_callD rfl rfl rfl call28 (settle28 w3 L n D S3 Pr lv3 qv3 h3.self hok hl hn k _ hsA (by omega) (by omega) _ hslice (X.mq _ _ _ _ hrk) _ (X.step atoms ends hfin k S3 hlt hrk)) fun r4 w4 hr4 => ?_)
      obtain ⟨rfl, S4, lv4, qv4, hrk4, h4⟩ := hr4
      have h4 := h3.after h4
      refine TL_nil ?_
      -- R9
      refine W_reg (l := [⟨some 37, Op.move (Operand.tmp 5), 27, none⟩, ⟨some 38, Op.move (Operand.tmp 8), 3, none⟩, ⟨some 39, Op.indexAddr 27 (Operand.tmp 37) (Operand.tmp 38), 0, none⟩, ⟨some 40, Op.load 3 (Operand.tmp 39), 3, none⟩, ⟨some 7, Op.assign (Operand.tmp 40), 3, none⟩]) (by kernel_rfl) (by kernel_rfl) ?_
      refine TL_q rfl (QV_move rfl) ?_
      refine TL_q rfl (QV_move rfl) ?_
      refine TL_q rfl (QV_idxO rfl rfl el27 sz3 (hlt)) ?_
      refine TL_q rfl (QV_load rfl one3 (cel_fr (hcel k hlt) h4.f (hnf _ hbB))) ?_
      refine TL_q rfl (QV_assign rfl) ?_
      refine TL_nil ?_
      -- R7
      refine W_reg (l := [⟨some 25, Op.move (Operand.tmp 8), 3, none⟩, ⟨some 26, Op.binOp BinOp.add 3 (Operand.tmp 25) (Operand.const (Value.int IntKind.i64 1)) 3, 3, none⟩, ⟨some 8, Op.assign (Operand.tmp 26), 3, none⟩]) (by kernel_rfl) (by kernel_rfl) ?_
      refine TL_q rfl (QV_move rfl) ?_
      refine TL_q rfl (QV_add (r := ((k + 1 : Nat) : Int)) rfl rfl (by omega) (by omega) (by omega)) ?_
      refine TL_q rfl (QV_assign rfl) ?_
      refine TL_nil ?_
      exact ⟨(k + 1, ⟨S4, lv4, qv4⟩), ⟨by omega, hrk4, h4⟩, ⟨rfl, rfl, rfl, sint (by rw [prevE_succ]), rfl, trivial⟩, by show ends.length - (k + 1) < ends.length - k; omega⟩
    ·
      have hke : k = ends.length := by have := of_decide_eq_false hc24; omega
      subst hke
      refine W_exit 0 (by kernel_rfl) ?_
      show T Try.prog 43 (C Try.f24 [1, 1, 1, 1, 1]) _ _ _
      refine W_seq (by kernel_rfl) ?_
      -- R10
      refine W_reg (l := [⟨some 41, Op.move (Operand.tmp 4), 27, none⟩, ⟨some 42, Op.move (Operand.tmp 5), 27, none⟩, ⟨some 4, Op.assign (Operand.tmp 41), 27, none⟩, ⟨some 5, Op.assign (Operand.tmp 42), 27, none⟩, ⟨some 6, Op.assign (Operand.const (Value.bool true)), 4, none⟩]) (by kernel_rfl) (by kernel_rfl) ?_
      refine TL_q rfl (QV_move rfl) ?_
      refine TL_q rfl (QV_move rfl) ?_
      refine TL_q rfl (QV_assign rfl) ?_
      refine TL_q rfl (QV_assign rfl) ?_
      refine TL_q rfl (QV_assign rfl) ?_
      refine TL_nil ?_
      refine W_ret (by kernel_rfl) ?_
      exact ⟨_, rfl, _, _, rfl, atoms, ends, hfin, S3, lv3, qv3, hrk, ((f1.trans f2).mono (fun _ _ h => h.elim)).trans (h3.f.mono (fun g _ e => ⟨e.1, e.2.1, fun e2 => e.2.2 (by subst hPr; exact .inl e2)⟩)), Pr, fun g hg => by subst hPr; exact .inl hg, hIA2.fr h3.f (fun g hg e => e.2.2 hg), hIE2.fr h3.f (fun g hg e => e.2.2 hg), h3.self⟩

end Go.Proofs.Qxb6600121a
