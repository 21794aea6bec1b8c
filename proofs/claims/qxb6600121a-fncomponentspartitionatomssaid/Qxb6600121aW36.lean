/-
   Walks written by program (wip/gen).
-/
import Derived.Test.Qxb6600121aW36a
namespace Go.Proofs.Qxb6600121a
open Go Go.Proofs
set_option linter.unusedVariables false
set_option linter.unusedSimpArgs false

theorem visit_mono (t : TJ) (a v : Nat) (h : t.index.getD v 0 ≠ 0) : (t.visit a).index.getD v 0 ≠ 0 := by
  show (t.index.set a (t.visited + 1)).getD v 0 ≠ 0
  rw [List.getD_eq_getElem?_getD, List.getElem?_set]
  split
  · split
    · simp
    · rename_i h1 h2
      subst h1
      rw [List.getD_eq_getElem?_getD, List.getElem?_eq_none (by omega)] at h
      exact absurd rfl h
  · rw [← List.getD_eq_getElem?_getD]; exact h
theorem visit_self (t : TJ) (a : Nat) (h : a < t.index.length) : (t.visit a).index.getD a 0 ≠ 0 := by
  show (t.index.set a (t.visited + 1)).getD a 0 ≠ 0
  rw [List.getD_eq_getElem?_getD, List.getElem?_set_self h]
  simp
theorem tstep_mono (D : List Rl) (n : Nat) (t : TJ) (v : Nat) (h : t.index.getD v 0 ≠ 0) : (tstep D n t).index.getD v 0 ≠ 0 := by
  have hfol : ∀ f rest dep, (t.follow f rest dep).index.getD v 0 ≠ 0 := by
    intro f rest dep
    rw [TJ.follow]
    split
    · exact visit_mono { t with calls := _ } dep v h
    · split <;> exact h
  rw [tstep]
  split
  · exact h
  · rename_i f rest heq
    split
    · split
      · exact hfol _ _ _
      · split
        · exact hfol _ _ _
        · exact h
    · have hu : (t.up f.a rest).index = t.index := by cases rest <;> rfl
      rw [TJ.close]
      split
      · rw [hu]; exact h
      · show (popTo f.a (t.up f.a rest).stack (t.up f.a rest)).index.getD v 0 ≠ 0
        rw [(popTo_same _ _ _).2.2.1, hu]; exact h
set_option maxRecDepth 10000 in
set_option maxHeartbeats 1000000 in
theorem comps (w : World) (L : Lay) (n : Nat) (hn : n ≤ 65536) (D : List Rl) (hok : Okay n D) (hl : D.length + tot (D.map Rl.rd) ≤ 1048576) (hst : Stat w.heap L n D) (hs0 : cel w.heap (L.s + 9) 0 = some (.pointer (some ⟨L.s + 8, 0, none⟩))) (hs1 : cel w.heap (L.s + 9) 1 = some L.bh)
    (PI : TJ → Prop) (μ : TJ → Nat) (hsafe : ∀ t, PI t → Safe n t) (h0 : PI (ts0 n)) (hvis : ∀ t k, PI t → t.calls = [] → k < n → t.index.getD k 0 = 0 → PI (t.visit k))
    (hstep : ∀ t, PI t → t.calls ≠ [] → PI (tstep D n t) ∧ μ (tstep D n t) < μ t) :
    CallsS Try.prog 36 #[.pointer (some ⟨L.s + 9, 0, none⟩)] w (fun r w' => ∃ t av ev, PI t ∧ t.calls = [] ∧ (∀ v, v < n → t.index.getD v 0 ≠ 0) ∧ r = .tuple #[av, ev] ∧ Fr (fun _ => False) w w' ∧
      Row w'.heap 3 1 av t.atoms.length (nats t.atoms) ∧ Row w'.heap 3 1 ev t.ends.length (nats t.ends) ∧ (∀ g, av.ownBlock = some g → w.heap.size ≤ g) ∧ (∀ g, ev.ownBlock = some g → w.heap.size ≤ g)) := by
  obtain ⟨bb, hbb, hbbs, hrow⟩ := hst.bh.row
  have hsl := cel_lt hs0
  refine W_fun [2, 3] Try.func36 rfl Try.ntmps36 Try.results36 (Nat.le_of_ble_eq_true rfl) ?_
  refine W_seq (by kernel_rfl) ?_
  -- R0
  refine W_reg (l := [⟨some 2, Op.assign (Operand.const (Value.slice none 0 0)), 27, none⟩, ⟨some 3, Op.assign (Operand.const (Value.slice none 0 0)), 27, none⟩]) (by kernel_rfl) (by kernel_rfl) ?_
  refine TL_q rfl (QV_assign rfl) ?_
  refine TL_q rfl (QV_assign rfl) ?_
  refine TL_nil ?_
  refine W_seq (by kernel_rfl) ?_
  -- R1
  refine W_reg (l := [⟨some 19, Op.move (Operand.tmp 0), 25, none⟩, ⟨some 20, Op.nilCheck (Operand.tmp 19), 0, none⟩, ⟨some 21, Op.fieldAddr 61 (Operand.tmp 20) 0, 0, none⟩, ⟨some 22, Op.load 59 (Operand.tmp 21), 59, none⟩, ⟨some 23, Op.nilCheck (Operand.tmp 22), 0, none⟩, ⟨some 24, Op.fieldAddr 65 (Operand.tmp 23) 0, 0, none⟩, ⟨some 25, Op.load 3 (Operand.tmp 24), 3, none⟩, ⟨some 4, Op.assign (Operand.tmp 25), 3, none⟩]) (by kernel_rfl) (by kernel_rfl) ?_
  refine TL_q rfl (QV_move rfl) ?_
  refine TL_q rfl (QV_nil rfl) ?_
  refine TL_q rfl (QV_field0 rfl fld61_0) ?_
  refine TL_q rfl (QV_load rfl one59 (hs0)) ?_
  refine TL_q rfl (QV_nil rfl) ?_
  refine TL_q rfl (QV_field0 rfl fld65_0) ?_
  refine TL_q rfl (QV_load rfl one3 (hst.r0)) ?_
  refine TL_q rfl (QV_assign rfl) ?_
  refine TL_nil ?_
  refine W_seq (by kernel_rfl) ?_
  -- R2
  obtain ⟨s, hs⟩ : ∃ s, s = w.heap.size := ⟨_, rfl⟩
  refine W_mid (fun E' w' => ∃ B : TB, B.ok ∧ B.s = s ∧ SubE [(0, .pointer (some ⟨L.s + 9, 0, none⟩)), (3, .slice none 0 0), (4, .int .i64 (n : Int)), (5, .pointer (some ⟨B.bI, 0, none⟩)), (6, .pointer (some ⟨B.bL, 0, none⟩))] E' ∧ Fr (fun _ => False) w w' ∧ w'.heap.size = s + 4 ∧
        Blk w'.heap B.bI 27 [.slice (some ⟨B.aI, 0, none⟩) n n] ∧ Blk w'.heap B.bL 27 [.slice (some ⟨B.aL, 0, none⟩) n n] ∧ Blk w'.heap B.aI 3 (nats (List.replicate n 0)) ∧ Blk w'.heap B.aL 3 (nats (List.replicate n 0))) ?_ ?_
  ·
    refine W_regX (n := 8) mix (by kernel_rfl) (by kernel_rfl) ?_
    refine TX_q (i := 0) (d := 26) (op := Op.move (Operand.tmp 4)) (ty := 3) (by kernel_rfl) (by kernel_rfl) (by kernel_rfl) (by kernel_rfl) rfl (fun _ => QV_move rfl) ?_
    refine TX_q (i := 2) (d := 28) (op := Op.move (Operand.tmp 4)) (ty := 3) (by kernel_rfl) (by kernel_rfl) (by kernel_rfl) (by kernel_rfl) rfl (fun _ => QV_move rfl) ?_
    have zz : w.heap.size = s + 0 := by omega
    have fr := Fr.refl (fun _ => False) w
    refine TX_all (rs := [1, 3, 4, 5]) (by kernel_rfl) rfl ⟨⟨⟨some 27, Op.makeSlice 27 (Operand.tmp 26) (Operand.tmp 26), 27, none⟩, by kernel_rfl, rfl, ?_⟩, ⟨⟨some 29, Op.makeSlice 27 (Operand.tmp 28) (Operand.tmp 28), 27, none⟩, by kernel_rfl, rfl, ?_⟩, ⟨⟨some 5, Op.alloc 27, 0, none⟩, by kernel_rfl, rfl, ?_⟩, ⟨⟨some 6, Op.alloc 27, 0, none⟩, by kernel_rfl, rfl, ?_⟩, trivial⟩
    ·
      refine EV_make1 rfl rfl rfl el27 in3 rfl (by omega) (by omega) (by omega) fun x2 hx => ?_
      rw [zz]
      have fr := fr.newb hx
      have nn := hx.blk
      rw [zz, nats_rep] at nn
      have kaI : Blk x2.heap (s + 0) 3 (nats (List.replicate n 0)) := nn
      have zz : x2.heap.size = s + 1 := by have := hx.size; omega
      refine TX_all (rs := [3, 4, 5]) (by kernel_rfl) rfl ⟨⟨⟨some 29, Op.makeSlice 27 (Operand.tmp 28) (Operand.tmp 28), 27, none⟩, by kernel_rfl, rfl, ?_⟩, ⟨⟨some 5, Op.alloc 27, 0, none⟩, by kernel_rfl, rfl, ?_⟩, ⟨⟨some 6, Op.alloc 27, 0, none⟩, by kernel_rfl, rfl, ?_⟩, trivial⟩
      ·
        refine EV_make1 rfl rfl rfl el27 in3 rfl (by omega) (by omega) (by omega) fun x3 hx => ?_
        rw [zz]
        have kaI := kaI.fr hx.fr (fun h => h)
        have fr := fr.newb hx
        have nn := hx.blk
        rw [zz, nats_rep] at nn
        have kaL : Blk x3.heap (s + 1) 3 (nats (List.replicate n 0)) := nn
        have zz : x3.heap.size = s + 2 := by have := hx.size; omega
        refine TX_all (rs := [4, 5]) (by kernel_rfl) rfl ⟨⟨⟨some 5, Op.alloc 27, 0, none⟩, by kernel_rfl, rfl, ?_⟩, ⟨⟨some 6, Op.alloc 27, 0, none⟩, by kernel_rfl, rfl, ?_⟩, trivial⟩
        ·
          refine EV_alloc rfl in27 fun x4 hx => ?_
          rw [zz]
          have kaI := kaI.fr hx.fr (fun h => h)
          have kaL := kaL.fr hx.fr (fun h => h)
          have fr := fr.newb hx
          have nn := hx.blk
          rw [zz] at nn
          have kbI : Blk x4.heap (s + 2) 27 [.slice none 0 0] := nn
          have zz : x4.heap.size = s + 3 := by have := hx.size; omega
          refine TX_all (rs := [5]) (by kernel_rfl) rfl ⟨⟨⟨some 6, Op.alloc 27, 0, none⟩, by kernel_rfl, rfl, ?_⟩, trivial⟩
          ·
            refine EV_alloc rfl in27 fun x5 hx => ?_
            rw [zz]
            have kaI := kaI.fr hx.fr (fun h => h)
            have kaL := kaL.fr hx.fr (fun h => h)
            have kbI := kbI.fr hx.fr (fun h => h)
            have fr := fr.newb hx
            have nn := hx.blk
            rw [zz] at nn
            have kbL : Blk x5.heap (s + 3) 27 [.slice none 0 0] := nn
            have zz : x5.heap.size = s + 4 := by have := hx.size; omega
            refine TX_all (rs := [6]) (by kernel_rfl) rfl ⟨⟨⟨none, Op.store 27 (Operand.tmp 5) (Operand.tmp 27), 0, none⟩, by kernel_rfl, rfl, ?_⟩, trivial⟩
            ·
              refine EV_store rfl rfl rfl sz27 kbI (by simp) fun x6 hx => ?_
              have kaI := kaI.fr hx.fr (by omega)
              have kaL := kaL.fr hx.fr (by omega)
              have kbL := kbL.fr hx.fr (by omega)
              have fr := fr.upd hx (by omega)
              have kbI : Blk x6.heap (s + 2) 27 [.slice (some ⟨s + 0, 0, none⟩) n n] := hx.blk
              have zz : x6.heap.size = s + 4 := by have := hx.size; omega
              refine TX_all (rs := [7]) (by kernel_rfl) rfl ⟨⟨⟨none, Op.store 27 (Operand.tmp 6) (Operand.tmp 29), 0, none⟩, by kernel_rfl, rfl, ?_⟩, trivial⟩
              ·
                refine EV_store rfl rfl rfl sz27 kbL (by simp) fun x7 hx => ?_
                have kaI := kaI.fr hx.fr (by omega)
                have kaL := kaL.fr hx.fr (by omega)
                have kbI := kbI.fr hx.fr (by omega)
                have fr := fr.upd hx (by omega)
                have kbL : Blk x7.heap (s + 3) 27 [.slice (some ⟨s + 1, 0, none⟩) n n] := hx.blk
                have zz : x7.heap.size = s + 4 := by have := hx.size; omega
                exact TX_nil (by kernel_rfl) ⟨⟨s, s + 0, s + 1, s + 2, s + 3⟩, tbok (by omega) (by omega) (by omega) (by omega) (by omega) (by omega) (by omega) (by omega) (by omega) (by omega), rfl, ⟨rfl, rfl, rfl, rfl, rfl, trivial⟩, fr, zz, kbI, kbL, kaI, kaL⟩
        ·
          refine EV_alloc rfl in27 fun x4 hx => ?_
          rw [zz]
          have kaI := kaI.fr hx.fr (fun h => h)
          have kaL := kaL.fr hx.fr (fun h => h)
          have fr := fr.newb hx
          have nn := hx.blk
          rw [zz] at nn
          have kbL : Blk x4.heap (s + 2) 27 [.slice none 0 0] := nn
          have zz : x4.heap.size = s + 3 := by have := hx.size; omega
          refine TX_all (rs := [4]) (by kernel_rfl) rfl ⟨⟨⟨some 5, Op.alloc 27, 0, none⟩, by kernel_rfl, rfl, ?_⟩, trivial⟩
          ·
            refine EV_alloc rfl in27 fun x5 hx => ?_
            rw [zz]
            have kaI := kaI.fr hx.fr (fun h => h)
            have kaL := kaL.fr hx.fr (fun h => h)
            have kbL := kbL.fr hx.fr (fun h => h)
            have fr := fr.newb hx
            have nn := hx.blk
            rw [zz] at nn
            have kbI : Blk x5.heap (s + 3) 27 [.slice none 0 0] := nn
            have zz : x5.heap.size = s + 4 := by have := hx.size; omega
            refine TX_all (rs := [6]) (by kernel_rfl) rfl ⟨⟨⟨none, Op.store 27 (Operand.tmp 5) (Operand.tmp 27), 0, none⟩, by kernel_rfl, rfl, ?_⟩, trivial⟩
            ·
              refine EV_store rfl rfl rfl sz27 kbI (by simp) fun x6 hx => ?_
              have kaI := kaI.fr hx.fr (by omega)
              have kaL := kaL.fr hx.fr (by omega)
              have kbL := kbL.fr hx.fr (by omega)
              have fr := fr.upd hx (by omega)
              have kbI : Blk x6.heap (s + 3) 27 [.slice (some ⟨s + 0, 0, none⟩) n n] := hx.blk
              have zz : x6.heap.size = s + 4 := by have := hx.size; omega
              refine TX_all (rs := [7]) (by kernel_rfl) rfl ⟨⟨⟨none, Op.store 27 (Operand.tmp 6) (Operand.tmp 29), 0, none⟩, by kernel_rfl, rfl, ?_⟩, trivial⟩
              ·
                refine EV_store rfl rfl rfl sz27 kbL (by simp) fun x7 hx => ?_
                have kaI := kaI.fr hx.fr (by omega)
                have kaL := kaL.fr hx.fr (by omega)
                have kbI := kbI.fr hx.fr (by omega)
                have fr := fr.upd hx (by omega)
                have kbL : Blk x7.heap (s + 2) 27 [.slice (some ⟨s + 1, 0, none⟩) n n] := hx.blk
                have zz : x7.heap.size = s + 4 := by have := hx.size; omega
                exact TX_nil (by kernel_rfl) ⟨⟨s, s + 0, s + 1, s + 3, s + 2⟩, tbok (by omega) (by omega) (by omega) (by omega) (by omega) (by omega) (by omega) (by omega) (by omega) (by omega), rfl, ⟨rfl, rfl, rfl, rfl, rfl, trivial⟩, fr, zz, kbI, kbL, kaI, kaL⟩
      ·
        refine EV_alloc rfl in27 fun x3 hx => ?_
        rw [zz]
        have kaI := kaI.fr hx.fr (fun h => h)
        have fr := fr.newb hx
        have nn := hx.blk
        rw [zz] at nn
        have kbI : Blk x3.heap (s + 1) 27 [.slice none 0 0] := nn
        have zz : x3.heap.size = s + 2 := by have := hx.size; omega
        refine TX_all (rs := [3, 5]) (by kernel_rfl) rfl ⟨⟨⟨some 29, Op.makeSlice 27 (Operand.tmp 28) (Operand.tmp 28), 27, none⟩, by kernel_rfl, rfl, ?_⟩, ⟨⟨some 6, Op.alloc 27, 0, none⟩, by kernel_rfl, rfl, ?_⟩, trivial⟩
        ·
          refine EV_make1 rfl rfl rfl el27 in3 rfl (by omega) (by omega) (by omega) fun x4 hx => ?_
          rw [zz]
          have kaI := kaI.fr hx.fr (fun h => h)
          have kbI := kbI.fr hx.fr (fun h => h)
          have fr := fr.newb hx
          have nn := hx.blk
          rw [zz, nats_rep] at nn
          have kaL : Blk x4.heap (s + 2) 3 (nats (List.replicate n 0)) := nn
          have zz : x4.heap.size = s + 3 := by have := hx.size; omega
          refine TX_all (rs := [5]) (by kernel_rfl) rfl ⟨⟨⟨some 6, Op.alloc 27, 0, none⟩, by kernel_rfl, rfl, ?_⟩, trivial⟩
          ·
            refine EV_alloc rfl in27 fun x5 hx => ?_
            rw [zz]
            have kaI := kaI.fr hx.fr (fun h => h)
            have kbI := kbI.fr hx.fr (fun h => h)
            have kaL := kaL.fr hx.fr (fun h => h)
            have fr := fr.newb hx
            have nn := hx.blk
            rw [zz] at nn
            have kbL : Blk x5.heap (s + 3) 27 [.slice none 0 0] := nn
            have zz : x5.heap.size = s + 4 := by have := hx.size; omega
            refine TX_all (rs := [6]) (by kernel_rfl) rfl ⟨⟨⟨none, Op.store 27 (Operand.tmp 5) (Operand.tmp 27), 0, none⟩, by kernel_rfl, rfl, ?_⟩, trivial⟩
            ·
              refine EV_store rfl rfl rfl sz27 kbI (by simp) fun x6 hx => ?_
              have kaI := kaI.fr hx.fr (by omega)
              have kaL := kaL.fr hx.fr (by omega)
              have kbL := kbL.fr hx.fr (by omega)
              have fr := fr.upd hx (by omega)
              have kbI : Blk x6.heap (s + 1) 27 [.slice (some ⟨s + 0, 0, none⟩) n n] := hx.blk
              have zz : x6.heap.size = s + 4 := by have := hx.size; omega
              refine TX_all (rs := [7]) (by kernel_rfl) rfl ⟨⟨⟨none, Op.store 27 (Operand.tmp 6) (Operand.tmp 29), 0, none⟩, by kernel_rfl, rfl, ?_⟩, trivial⟩
              ·
                refine EV_store rfl rfl rfl sz27 kbL (by simp) fun x7 hx => ?_
                have kaI := kaI.fr hx.fr (by omega)
                have kbI := kbI.fr hx.fr (by omega)
                have kaL := kaL.fr hx.fr (by omega)
                have fr := fr.upd hx (by omega)
                have kbL : Blk x7.heap (s + 3) 27 [.slice (some ⟨s + 2, 0, none⟩) n n] := hx.blk
                have zz : x7.heap.size = s + 4 := by have := hx.size; omega
                exact TX_nil (by kernel_rfl) ⟨⟨s, s + 0, s + 2, s + 1, s + 3⟩, tbok (by omega) (by omega) (by omega) (by omega) (by omega) (by omega) (by omega) (by omega) (by omega) (by omega), rfl, ⟨rfl, rfl, rfl, rfl, rfl, trivial⟩, fr, zz, kbI, kbL, kaI, kaL⟩
        ·
          refine EV_alloc rfl in27 fun x4 hx => ?_
          rw [zz]
          have kaI := kaI.fr hx.fr (fun h => h)
          have kbI := kbI.fr hx.fr (fun h => h)
          have fr := fr.newb hx
          have nn := hx.blk
          rw [zz] at nn
          have kbL : Blk x4.heap (s + 2) 27 [.slice none 0 0] := nn
          have zz : x4.heap.size = s + 3 := by have := hx.size; omega
          refine TX_all (rs := [3, 6]) (by kernel_rfl) rfl ⟨⟨⟨some 29, Op.makeSlice 27 (Operand.tmp 28) (Operand.tmp 28), 27, none⟩, by kernel_rfl, rfl, ?_⟩, ⟨⟨none, Op.store 27 (Operand.tmp 5) (Operand.tmp 27), 0, none⟩, by kernel_rfl, rfl, ?_⟩, trivial⟩
          ·
            refine EV_make1 rfl rfl rfl el27 in3 rfl (by omega) (by omega) (by omega) fun x5 hx => ?_
            rw [zz]
            have kaI := kaI.fr hx.fr (fun h => h)
            have kbI := kbI.fr hx.fr (fun h => h)
            have kbL := kbL.fr hx.fr (fun h => h)
            have fr := fr.newb hx
            have nn := hx.blk
            rw [zz, nats_rep] at nn
            have kaL : Blk x5.heap (s + 3) 3 (nats (List.replicate n 0)) := nn
            have zz : x5.heap.size = s + 4 := by have := hx.size; omega
            refine TX_all (rs := [6]) (by kernel_rfl) rfl ⟨⟨⟨none, Op.store 27 (Operand.tmp 5) (Operand.tmp 27), 0, none⟩, by kernel_rfl, rfl, ?_⟩, trivial⟩
            ·
              refine EV_store rfl rfl rfl sz27 kbI (by simp) fun x6 hx => ?_
              have kaI := kaI.fr hx.fr (by omega)
              have kbL := kbL.fr hx.fr (by omega)
              have kaL := kaL.fr hx.fr (by omega)
              have fr := fr.upd hx (by omega)
              have kbI : Blk x6.heap (s + 1) 27 [.slice (some ⟨s + 0, 0, none⟩) n n] := hx.blk
              have zz : x6.heap.size = s + 4 := by have := hx.size; omega
              refine TX_all (rs := [7]) (by kernel_rfl) rfl ⟨⟨⟨none, Op.store 27 (Operand.tmp 6) (Operand.tmp 29), 0, none⟩, by kernel_rfl, rfl, ?_⟩, trivial⟩
              ·
                refine EV_store rfl rfl rfl sz27 kbL (by simp) fun x7 hx => ?_
                have kaI := kaI.fr hx.fr (by omega)
                have kbI := kbI.fr hx.fr (by omega)
                have kaL := kaL.fr hx.fr (by omega)
                have fr := fr.upd hx (by omega)
                have kbL : Blk x7.heap (s + 2) 27 [.slice (some ⟨s + 3, 0, none⟩) n n] := hx.blk
                have zz : x7.heap.size = s + 4 := by have := hx.size; omega
                exact TX_nil (by kernel_rfl) ⟨⟨s, s + 0, s + 3, s + 1, s + 2⟩, tbok (by omega) (by omega) (by omega) (by omega) (by omega) (by omega) (by omega) (by omega) (by omega) (by omega), rfl, ⟨rfl, rfl, rfl, rfl, rfl, trivial⟩, fr, zz, kbI, kbL, kaI, kaL⟩
          ·
            refine EV_store rfl rfl rfl sz27 kbI (by simp) fun x5 hx => ?_
            have kaI := kaI.fr hx.fr (by omega)
            have kbL := kbL.fr hx.fr (by omega)
            have fr := fr.upd hx (by omega)
            have kbI : Blk x5.heap (s + 1) 27 [.slice (some ⟨s + 0, 0, none⟩) n n] := hx.blk
            have zz : x5.heap.size = s + 3 := by have := hx.size; omega
            refine TX_all (rs := [3]) (by kernel_rfl) rfl ⟨⟨⟨some 29, Op.makeSlice 27 (Operand.tmp 28) (Operand.tmp 28), 27, none⟩, by kernel_rfl, rfl, ?_⟩, trivial⟩
            ·
              refine EV_make1 rfl rfl rfl el27 in3 rfl (by omega) (by omega) (by omega) fun x6 hx => ?_
              rw [zz]
              have kaI := kaI.fr hx.fr (fun h => h)
              have kbI := kbI.fr hx.fr (fun h => h)
              have kbL := kbL.fr hx.fr (fun h => h)
              have fr := fr.newb hx
              have nn := hx.blk
              rw [zz, nats_rep] at nn
              have kaL : Blk x6.heap (s + 3) 3 (nats (List.replicate n 0)) := nn
              have zz : x6.heap.size = s + 4 := by have := hx.size; omega
              refine TX_all (rs := [7]) (by kernel_rfl) rfl ⟨⟨⟨none, Op.store 27 (Operand.tmp 6) (Operand.tmp 29), 0, none⟩, by kernel_rfl, rfl, ?_⟩, trivial⟩
              ·
                refine EV_store rfl rfl rfl sz27 kbL (by simp) fun x7 hx => ?_
                have kaI := kaI.fr hx.fr (by omega)
                have kbI := kbI.fr hx.fr (by omega)
                have kaL := kaL.fr hx.fr (by omega)
                have fr := fr.upd hx (by omega)
                have kbL : Blk x7.heap (s + 2) 27 [.slice (some ⟨s + 3, 0, none⟩) n n] := hx.blk
                have zz : x7.heap.size = s + 4 := by have := hx.size; omega
                exact TX_nil (by kernel_rfl) ⟨⟨s, s + 0, s + 3, s + 1, s + 2⟩, tbok (by omega) (by omega) (by omega) (by omega) (by omega) (by omega) (by omega) (by omega) (by omega) (by omega), rfl, ⟨rfl, rfl, rfl, rfl, rfl, trivial⟩, fr, zz, kbI, kbL, kaI, kaL⟩
      ·
        refine EV_alloc rfl in27 fun x3 hx => ?_
        rw [zz]
        have kaI := kaI.fr hx.fr (fun h => h)
        have fr := fr.newb hx
        have nn := hx.blk
        rw [zz] at nn
        have kbL : Blk x3.heap (s + 1) 27 [.slice none 0 0] := nn
        have zz : x3.heap.size = s + 2 := by have := hx.size; omega
        refine TX_all (rs := [3, 4]) (by kernel_rfl) rfl ⟨⟨⟨some 29, Op.makeSlice 27 (Operand.tmp 28) (Operand.tmp 28), 27, none⟩, by kernel_rfl, rfl, ?_⟩, ⟨⟨some 5, Op.alloc 27, 0, none⟩, by kernel_rfl, rfl, ?_⟩, trivial⟩
        ·
          refine EV_make1 rfl rfl rfl el27 in3 rfl (by omega) (by omega) (by omega) fun x4 hx => ?_
          rw [zz]
          have kaI := kaI.fr hx.fr (fun h => h)
          have kbL := kbL.fr hx.fr (fun h => h)
          have fr := fr.newb hx
          have nn := hx.blk
          rw [zz, nats_rep] at nn
          have kaL : Blk x4.heap (s + 2) 3 (nats (List.replicate n 0)) := nn
          have zz : x4.heap.size = s + 3 := by have := hx.size; omega
          refine TX_all (rs := [4]) (by kernel_rfl) rfl ⟨⟨⟨some 5, Op.alloc 27, 0, none⟩, by kernel_rfl, rfl, ?_⟩, trivial⟩
          ·
            refine EV_alloc rfl in27 fun x5 hx => ?_
            rw [zz]
            have kaI := kaI.fr hx.fr (fun h => h)
            have kbL := kbL.fr hx.fr (fun h => h)
            have kaL := kaL.fr hx.fr (fun h => h)
            have fr := fr.newb hx
            have nn := hx.blk
            rw [zz] at nn
            have kbI : Blk x5.heap (s + 3) 27 [.slice none 0 0] := nn
            have zz : x5.heap.size = s + 4 := by have := hx.size; omega
            refine TX_all (rs := [6]) (by kernel_rfl) rfl ⟨⟨⟨none, Op.store 27 (Operand.tmp 5) (Operand.tmp 27), 0, none⟩, by kernel_rfl, rfl, ?_⟩, trivial⟩
            ·
              refine EV_store rfl rfl rfl sz27 kbI (by simp) fun x6 hx => ?_
              have kaI := kaI.fr hx.fr (by omega)
              have kbL := kbL.fr hx.fr (by omega)
              have kaL := kaL.fr hx.fr (by omega)
              have fr := fr.upd hx (by omega)
              have kbI : Blk x6.heap (s + 3) 27 [.slice (some ⟨s + 0, 0, none⟩) n n] := hx.blk
              have zz : x6.heap.size = s + 4 := by have := hx.size; omega
              refine TX_all (rs := [7]) (by kernel_rfl) rfl ⟨⟨⟨none, Op.store 27 (Operand.tmp 6) (Operand.tmp 29), 0, none⟩, by kernel_rfl, rfl, ?_⟩, trivial⟩
              ·
                refine EV_store rfl rfl rfl sz27 kbL (by simp) fun x7 hx => ?_
                have kaI := kaI.fr hx.fr (by omega)
                have kaL := kaL.fr hx.fr (by omega)
                have kbI := kbI.fr hx.fr (by omega)
                have fr := fr.upd hx (by omega)
                have kbL : Blk x7.heap (s + 1) 27 [.slice (some ⟨s + 2, 0, none⟩) n n] := hx.blk
                have zz : x7.heap.size = s + 4 := by have := hx.size; omega
                exact TX_nil (by kernel_rfl) ⟨⟨s, s + 0, s + 2, s + 3, s + 1⟩, tbok (by omega) (by omega) (by omega) (by omega) (by omega) (by omega) (by omega) (by omega) (by omega) (by omega), rfl, ⟨rfl, rfl, rfl, rfl, rfl, trivial⟩, fr, zz, kbI, kbL, kaI, kaL⟩
        ·
          refine EV_alloc rfl in27 fun x4 hx => ?_
          rw [zz]
          have kaI := kaI.fr hx.fr (fun h => h)
          have kbL := kbL.fr hx.fr (fun h => h)
          have fr := fr.newb hx
          have nn := hx.blk
          rw [zz] at nn
          have kbI : Blk x4.heap (s + 2) 27 [.slice none 0 0] := nn
          have zz : x4.heap.size = s + 3 := by have := hx.size; omega
          refine TX_all (rs := [3, 6]) (by kernel_rfl) rfl ⟨⟨⟨some 29, Op.makeSlice 27 (Operand.tmp 28) (Operand.tmp 28), 27, none⟩, by kernel_rfl, rfl, ?_⟩, ⟨⟨none, Op.store 27 (Operand.tmp 5) (Operand.tmp 27), 0, none⟩, by kernel_rfl, rfl, ?_⟩, trivial⟩
          ·
            refine EV_make1 rfl rfl rfl el27 in3 rfl (by omega) (by omega) (by omega) fun x5 hx => ?_
            rw [zz]
            have kaI := kaI.fr hx.fr (fun h => h)
            have kbL := kbL.fr hx.fr (fun h => h)
            have kbI := kbI.fr hx.fr (fun h => h)
            have fr := fr.newb hx
            have nn := hx.blk
            rw [zz, nats_rep] at nn
            have kaL : Blk x5.heap (s + 3) 3 (nats (List.replicate n 0)) := nn
            have zz : x5.heap.size = s + 4 := by have := hx.size; omega
            refine TX_all (rs := [6]) (by kernel_rfl) rfl ⟨⟨⟨none, Op.store 27 (Operand.tmp 5) (Operand.tmp 27), 0, none⟩, by kernel_rfl, rfl, ?_⟩, trivial⟩
            ·
              refine EV_store rfl rfl rfl sz27 kbI (by simp) fun x6 hx => ?_
              have kaI := kaI.fr hx.fr (by omega)
              have kbL := kbL.fr hx.fr (by omega)
              have kaL := kaL.fr hx.fr (by omega)
              have fr := fr.upd hx (by omega)
              have kbI : Blk x6.heap (s + 2) 27 [.slice (some ⟨s + 0, 0, none⟩) n n] := hx.blk
              have zz : x6.heap.size = s + 4 := by have := hx.size; omega
              refine TX_all (rs := [7]) (by kernel_rfl) rfl ⟨⟨⟨none, Op.store 27 (Operand.tmp 6) (Operand.tmp 29), 0, none⟩, by kernel_rfl, rfl, ?_⟩, trivial⟩
              ·
                refine EV_store rfl rfl rfl sz27 kbL (by simp) fun x7 hx => ?_
                have kaI := kaI.fr hx.fr (by omega)
                have kbI := kbI.fr hx.fr (by omega)
                have kaL := kaL.fr hx.fr (by omega)
                have fr := fr.upd hx (by omega)
                have kbL : Blk x7.heap (s + 1) 27 [.slice (some ⟨s + 3, 0, none⟩) n n] := hx.blk
                have zz : x7.heap.size = s + 4 := by have := hx.size; omega
                exact TX_nil (by kernel_rfl) ⟨⟨s, s + 0, s + 3, s + 2, s + 1⟩, tbok (by omega) (by omega) (by omega) (by omega) (by omega) (by omega) (by omega) (by omega) (by omega) (by omega), rfl, ⟨rfl, rfl, rfl, rfl, rfl, trivial⟩, fr, zz, kbI, kbL, kaI, kaL⟩
          ·
            refine EV_store rfl rfl rfl sz27 kbI (by simp) fun x5 hx => ?_
            have kaI := kaI.fr hx.fr (by omega)
            have kbL := kbL.fr hx.fr (by omega)
            have fr := fr.upd hx (by omega)
            have kbI : Blk x5.heap (s + 2) 27 [.slice (some ⟨s + 0, 0, none⟩) n n] := hx.blk
            have zz : x5.heap.size = s + 3 := by have := hx.size; omega
            refine TX_all (rs := [3]) (by kernel_rfl) rfl ⟨⟨⟨some 29, Op.makeSlice 27 (Operand.tmp 28) (Operand.tmp 28), 27, none⟩, by kernel_rfl, rfl, ?_⟩, trivial⟩
            ·
              refine EV_make1 rfl rfl rfl el27 in3 rfl (by omega) (by omega) (by omega) fun x6 hx => ?_
              rw [zz]
              have kaI := kaI.fr hx.fr (fun h => h)
              have kbL := kbL.fr hx.fr (fun h => h)
              have kbI := kbI.fr hx.fr (fun h => h)
              have fr := fr.newb hx
              have nn := hx.blk
              rw [zz, nats_rep] at nn
              have kaL : Blk x6.heap (s + 3) 3 (nats (List.replicate n 0)) := nn
              have zz : x6.heap.size = s + 4 := by have := hx.size; omega
              refine TX_all (rs := [7]) (by kernel_rfl) rfl ⟨⟨⟨none, Op.store 27 (Operand.tmp 6) (Operand.tmp 29), 0, none⟩, by kernel_rfl, rfl, ?_⟩, trivial⟩
              ·
                refine EV_store rfl rfl rfl sz27 kbL (by simp) fun x7 hx => ?_
                have kaI := kaI.fr hx.fr (by omega)
                have kbI := kbI.fr hx.fr (by omega)
                have kaL := kaL.fr hx.fr (by omega)
                have fr := fr.upd hx (by omega)
                have kbL : Blk x7.heap (s + 1) 27 [.slice (some ⟨s + 3, 0, none⟩) n n] := hx.blk
                have zz : x7.heap.size = s + 4 := by have := hx.size; omega
                exact TX_nil (by kernel_rfl) ⟨⟨s, s + 0, s + 3, s + 2, s + 1⟩, tbok (by omega) (by omega) (by omega) (by omega) (by omega) (by omega) (by omega) (by omega) (by omega) (by omega), rfl, ⟨rfl, rfl, rfl, rfl, rfl, trivial⟩, fr, zz, kbI, kbL, kaI, kaL⟩
    ·
      refine EV_make1 rfl rfl rfl el27 in3 rfl (by omega) (by omega) (by omega) fun x2 hx => ?_
      rw [zz]
      have fr := fr.newb hx
      have nn := hx.blk
      rw [zz, nats_rep] at nn
      have kaL : Blk x2.heap (s + 0) 3 (nats (List.replicate n 0)) := nn
      have zz : x2.heap.size = s + 1 := by have := hx.size; omega
      refine TX_all (rs := [1, 4, 5]) (by kernel_rfl) rfl ⟨⟨⟨some 27, Op.makeSlice 27 (Operand.tmp 26) (Operand.tmp 26), 27, none⟩, by kernel_rfl, rfl, ?_⟩, ⟨⟨some 5, Op.alloc 27, 0, none⟩, by kernel_rfl, rfl, ?_⟩, ⟨⟨some 6, Op.alloc 27, 0, none⟩, by kernel_rfl, rfl, ?_⟩, trivial⟩
      ·
        refine EV_make1 rfl rfl rfl el27 in3 rfl (by omega) (by omega) (by omega) fun x3 hx => ?_
        rw [zz]
        have kaL := kaL.fr hx.fr (fun h => h)
        have fr := fr.newb hx
        have nn := hx.blk
        rw [zz, nats_rep] at nn
        have kaI : Blk x3.heap (s + 1) 3 (nats (List.replicate n 0)) := nn
        have zz : x3.heap.size = s + 2 := by have := hx.size; omega
        refine TX_all (rs := [4, 5]) (by kernel_rfl) rfl ⟨⟨⟨some 5, Op.alloc 27, 0, none⟩, by kernel_rfl, rfl, ?_⟩, ⟨⟨some 6, Op.alloc 27, 0, none⟩, by kernel_rfl, rfl, ?_⟩, trivial⟩
        ·
          refine EV_alloc rfl in27 fun x4 hx => ?_
          rw [zz]
          have kaL := kaL.fr hx.fr (fun h => h)
          have kaI := kaI.fr hx.fr (fun h => h)
          have fr := fr.newb hx
          have nn := hx.blk
          rw [zz] at nn
          have kbI : Blk x4.heap (s + 2) 27 [.slice none 0 0] := nn
          have zz : x4.heap.size = s + 3 := by have := hx.size; omega
          refine TX_all (rs := [5]) (by kernel_rfl) rfl ⟨⟨⟨some 6, Op.alloc 27, 0, none⟩, by kernel_rfl, rfl, ?_⟩, trivial⟩
          ·
            refine EV_alloc rfl in27 fun x5 hx => ?_
            rw [zz]
            have kaL := kaL.fr hx.fr (fun h => h)
            have kaI := kaI.fr hx.fr (fun h => h)
            have kbI := kbI.fr hx.fr (fun h => h)
            have fr := fr.newb hx
            have nn := hx.blk
            rw [zz] at nn
            have kbL : Blk x5.heap (s + 3) 27 [.slice none 0 0] := nn
            have zz : x5.heap.size = s + 4 := by have := hx.size; omega
            refine TX_all (rs := [6]) (by kernel_rfl) rfl ⟨⟨⟨none, Op.store 27 (Operand.tmp 5) (Operand.tmp 27), 0, none⟩, by kernel_rfl, rfl, ?_⟩, trivial⟩
            ·
              refine EV_store rfl rfl rfl sz27 kbI (by simp) fun x6 hx => ?_
              have kaL := kaL.fr hx.fr (by omega)
              have kaI := kaI.fr hx.fr (by omega)
              have kbL := kbL.fr hx.fr (by omega)
              have fr := fr.upd hx (by omega)
              have kbI : Blk x6.heap (s + 2) 27 [.slice (some ⟨s + 1, 0, none⟩) n n] := hx.blk
              have zz : x6.heap.size = s + 4 := by have := hx.size; omega
              refine TX_all (rs := [7]) (by kernel_rfl) rfl ⟨⟨⟨none, Op.store 27 (Operand.tmp 6) (Operand.tmp 29), 0, none⟩, by kernel_rfl, rfl, ?_⟩, trivial⟩
              ·
                refine EV_store rfl rfl rfl sz27 kbL (by simp) fun x7 hx => ?_
                have kaL := kaL.fr hx.fr (by omega)
                have kaI := kaI.fr hx.fr (by omega)
                have kbI := kbI.fr hx.fr (by omega)
                have fr := fr.upd hx (by omega)
                have kbL : Blk x7.heap (s + 3) 27 [.slice (some ⟨s + 0, 0, none⟩) n n] := hx.blk
                have zz : x7.heap.size = s + 4 := by have := hx.size; omega
                exact TX_nil (by kernel_rfl) ⟨⟨s, s + 1, s + 0, s + 2, s + 3⟩, tbok (by omega) (by omega) (by omega) (by omega) (by omega) (by omega) (by omega) (by omega) (by omega) (by omega), rfl, ⟨rfl, rfl, rfl, rfl, rfl, trivial⟩, fr, zz, kbI, kbL, kaI, kaL⟩
        ·
          refine EV_alloc rfl in27 fun x4 hx => ?_
          rw [zz]
          have kaL := kaL.fr hx.fr (fun h => h)
          have kaI := kaI.fr hx.fr (fun h => h)
          have fr := fr.newb hx
          have nn := hx.blk
          rw [zz] at nn
          have kbL : Blk x4.heap (s + 2) 27 [.slice none 0 0] := nn
          have zz : x4.heap.size = s + 3 := by have := hx.size; omega
          refine TX_all (rs := [4]) (by kernel_rfl) rfl ⟨⟨⟨some 5, Op.alloc 27, 0, none⟩, by kernel_rfl, rfl, ?_⟩, trivial⟩
          ·
            refine EV_alloc rfl in27 fun x5 hx => ?_
            rw [zz]
            have kaL := kaL.fr hx.fr (fun h => h)
            have kaI := kaI.fr hx.fr (fun h => h)
            have kbL := kbL.fr hx.fr (fun h => h)
            have fr := fr.newb hx
            have nn := hx.blk
            rw [zz] at nn
            have kbI : Blk x5.heap (s + 3) 27 [.slice none 0 0] := nn
            have zz : x5.heap.size = s + 4 := by have := hx.size; omega
            refine TX_all (rs := [6]) (by kernel_rfl) rfl ⟨⟨⟨none, Op.store 27 (Operand.tmp 5) (Operand.tmp 27), 0, none⟩, by kernel_rfl, rfl, ?_⟩, trivial⟩
            ·
              refine EV_store rfl rfl rfl sz27 kbI (by simp) fun x6 hx => ?_
              have kaL := kaL.fr hx.fr (by omega)
              have kaI := kaI.fr hx.fr (by omega)
              have kbL := kbL.fr hx.fr (by omega)
              have fr := fr.upd hx (by omega)
              have kbI : Blk x6.heap (s + 3) 27 [.slice (some ⟨s + 1, 0, none⟩) n n] := hx.blk
              have zz : x6.heap.size = s + 4 := by have := hx.size; omega
              refine TX_all (rs := [7]) (by kernel_rfl) rfl ⟨⟨⟨none, Op.store 27 (Operand.tmp 6) (Operand.tmp 29), 0, none⟩, by kernel_rfl, rfl, ?_⟩, trivial⟩
              ·
                refine EV_store rfl rfl rfl sz27 kbL (by simp) fun x7 hx => ?_
                have kaL := kaL.fr hx.fr (by omega)
                have kaI := kaI.fr hx.fr (by omega)
                have kbI := kbI.fr hx.fr (by omega)
                have fr := fr.upd hx (by omega)
                have kbL : Blk x7.heap (s + 2) 27 [.slice (some ⟨s + 0, 0, none⟩) n n] := hx.blk
                have zz : x7.heap.size = s + 4 := by have := hx.size; omega
                exact TX_nil (by kernel_rfl) ⟨⟨s, s + 1, s + 0, s + 3, s + 2⟩, tbok (by omega) (by omega) (by omega) (by omega) (by omega) (by omega) (by omega) (by omega) (by omega) (by omega), rfl, ⟨rfl, rfl, rfl, rfl, rfl, trivial⟩, fr, zz, kbI, kbL, kaI, kaL⟩
      ·
        refine EV_alloc rfl in27 fun x3 hx => ?_
        rw [zz]
        have kaL := kaL.fr hx.fr (fun h => h)
        have fr := fr.newb hx
        have nn := hx.blk
        rw [zz] at nn
        have kbI : Blk x3.heap (s + 1) 27 [.slice none 0 0] := nn
        have zz : x3.heap.size = s + 2 := by have := hx.size; omega
        refine TX_all (rs := [1, 5]) (by kernel_rfl) rfl ⟨⟨⟨some 27, Op.makeSlice 27 (Operand.tmp 26) (Operand.tmp 26), 27, none⟩, by kernel_rfl, rfl, ?_⟩, ⟨⟨some 6, Op.alloc 27, 0, none⟩, by kernel_rfl, rfl, ?_⟩, trivial⟩
        ·
          refine EV_make1 rfl rfl rfl el27 in3 rfl (by omega) (by omega) (by omega) fun x4 hx => ?_
          rw [zz]
          have kaL := kaL.fr hx.fr (fun h => h)
          have kbI := kbI.fr hx.fr (fun h => h)
          have fr := fr.newb hx
          have nn := hx.blk
          rw [zz, nats_rep] at nn
          have kaI : Blk x4.heap (s + 2) 3 (nats (List.replicate n 0)) := nn
          have zz : x4.heap.size = s + 3 := by have := hx.size; omega
          refine TX_all (rs := [5]) (by kernel_rfl) rfl ⟨⟨⟨some 6, Op.alloc 27, 0, none⟩, by kernel_rfl, rfl, ?_⟩, trivial⟩
          ·
            refine EV_alloc rfl in27 fun x5 hx => ?_
            rw [zz]
            have kaL := kaL.fr hx.fr (fun h => h)
            have kbI := kbI.fr hx.fr (fun h => h)
            have kaI := kaI.fr hx.fr (fun h => h)
            have fr := fr.newb hx
            have nn := hx.blk
            rw [zz] at nn
            have kbL : Blk x5.heap (s + 3) 27 [.slice none 0 0] := nn
            have zz : x5.heap.size = s + 4 := by have := hx.size; omega
            refine TX_all (rs := [6]) (by kernel_rfl) rfl ⟨⟨⟨none, Op.store 27 (Operand.tmp 5) (Operand.tmp 27), 0, none⟩, by kernel_rfl, rfl, ?_⟩, trivial⟩
            ·
              refine EV_store rfl rfl rfl sz27 kbI (by simp) fun x6 hx => ?_
              have kaL := kaL.fr hx.fr (by omega)
              have kaI := kaI.fr hx.fr (by omega)
              have kbL := kbL.fr hx.fr (by omega)
              have fr := fr.upd hx (by omega)
              have kbI : Blk x6.heap (s + 1) 27 [.slice (some ⟨s + 2, 0, none⟩) n n] := hx.blk
              have zz : x6.heap.size = s + 4 := by have := hx.size; omega
              refine TX_all (rs := [7]) (by kernel_rfl) rfl ⟨⟨⟨none, Op.store 27 (Operand.tmp 6) (Operand.tmp 29), 0, none⟩, by kernel_rfl, rfl, ?_⟩, trivial⟩
              ·
                refine EV_store rfl rfl rfl sz27 kbL (by simp) fun x7 hx => ?_
                have kaL := kaL.fr hx.fr (by omega)
                have kbI := kbI.fr hx.fr (by omega)
                have kaI := kaI.fr hx.fr (by omega)
                have fr := fr.upd hx (by omega)
                have kbL : Blk x7.heap (s + 3) 27 [.slice (some ⟨s + 0, 0, none⟩) n n] := hx.blk
                have zz : x7.heap.size = s + 4 := by have := hx.size; omega
                exact TX_nil (by kernel_rfl) ⟨⟨s, s + 2, s + 0, s + 1, s + 3⟩, tbok (by omega) (by omega) (by omega) (by omega) (by omega) (by omega) (by omega) (by omega) (by omega) (by omega), rfl, ⟨rfl, rfl, rfl, rfl, rfl, trivial⟩, fr, zz, kbI, kbL, kaI, kaL⟩
        ·
          refine EV_alloc rfl in27 fun x4 hx => ?_
          rw [zz]
          have kaL := kaL.fr hx.fr (fun h => h)
          have kbI := kbI.fr hx.fr (fun h => h)
          have fr := fr.newb hx
          have nn := hx.blk
          rw [zz] at nn
          have kbL : Blk x4.heap (s + 2) 27 [.slice none 0 0] := nn
          have zz : x4.heap.size = s + 3 := by have := hx.size; omega
          refine TX_all (rs := [1]) (by kernel_rfl) rfl ⟨⟨⟨some 27, Op.makeSlice 27 (Operand.tmp 26) (Operand.tmp 26), 27, none⟩, by kernel_rfl, rfl, ?_⟩, trivial⟩
          ·
            refine EV_make1 rfl rfl rfl el27 in3 rfl (by omega) (by omega) (by omega) fun x5 hx => ?_
            rw [zz]
            have kaL := kaL.fr hx.fr (fun h => h)
            have kbI := kbI.fr hx.fr (fun h => h)
            have kbL := kbL.fr hx.fr (fun h => h)
            have fr := fr.newb hx
            have nn := hx.blk
            rw [zz, nats_rep] at nn
            have kaI : Blk x5.heap (s + 3) 3 (nats (List.replicate n 0)) := nn
            have zz : x5.heap.size = s + 4 := by have := hx.size; omega
            refine TX_all (rs := [6]) (by kernel_rfl) rfl ⟨⟨⟨none, Op.store 27 (Operand.tmp 5) (Operand.tmp 27), 0, none⟩, by kernel_rfl, rfl, ?_⟩, trivial⟩
            ·
              refine EV_store rfl rfl rfl sz27 kbI (by simp) fun x6 hx => ?_
              have kaL := kaL.fr hx.fr (by omega)
              have kbL := kbL.fr hx.fr (by omega)
              have kaI := kaI.fr hx.fr (by omega)
              have fr := fr.upd hx (by omega)
              have kbI : Blk x6.heap (s + 1) 27 [.slice (some ⟨s + 3, 0, none⟩) n n] := hx.blk
              have zz : x6.heap.size = s + 4 := by have := hx.size; omega
              refine TX_all (rs := [7]) (by kernel_rfl) rfl ⟨⟨⟨none, Op.store 27 (Operand.tmp 6) (Operand.tmp 29), 0, none⟩, by kernel_rfl, rfl, ?_⟩, trivial⟩
              ·
                refine EV_store rfl rfl rfl sz27 kbL (by simp) fun x7 hx => ?_
                have kaL := kaL.fr hx.fr (by omega)
                have kbI := kbI.fr hx.fr (by omega)
                have kaI := kaI.fr hx.fr (by omega)
                have fr := fr.upd hx (by omega)
                have kbL : Blk x7.heap (s + 2) 27 [.slice (some ⟨s + 0, 0, none⟩) n n] := hx.blk
                have zz : x7.heap.size = s + 4 := by have := hx.size; omega
                exact TX_nil (by kernel_rfl) ⟨⟨s, s + 3, s + 0, s + 1, s + 2⟩, tbok (by omega) (by omega) (by omega) (by omega) (by omega) (by omega) (by omega) (by omega) (by omega) (by omega), rfl, ⟨rfl, rfl, rfl, rfl, rfl, trivial⟩, fr, zz, kbI, kbL, kaI, kaL⟩
      ·
        refine EV_alloc rfl in27 fun x3 hx => ?_
        rw [zz]
        have kaL := kaL.fr hx.fr (fun h => h)
        have fr := fr.newb hx
        have nn := hx.blk
        rw [zz] at nn
        have kbL : Blk x3.heap (s + 1) 27 [.slice none 0 0] := nn
        have zz : x3.heap.size = s + 2 := by have := hx.size; omega
        refine TX_all (rs := [1, 4]) (by kernel_rfl) rfl ⟨⟨⟨some 27, Op.makeSlice 27 (Operand.tmp 26) (Operand.tmp 26), 27, none⟩, by kernel_rfl, rfl, ?_⟩, ⟨⟨some 5, Op.alloc 27, 0, none⟩, by kernel_rfl, rfl, ?_⟩, trivial⟩
        ·
          refine EV_make1 rfl rfl rfl el27 in3 rfl (by omega) (by omega) (by omega) fun x4 hx => ?_
          rw [zz]
          have kaL := kaL.fr hx.fr (fun h => h)
          have kbL := kbL.fr hx.fr (fun h => h)
          have fr := fr.newb hx
          have nn := hx.blk
          rw [zz, nats_rep] at nn
          have kaI : Blk x4.heap (s + 2) 3 (nats (List.replicate n 0)) := nn
          have zz : x4.heap.size = s + 3 := by have := hx.size; omega
          refine TX_all (rs := [4]) (by kernel_rfl) rfl ⟨⟨⟨some 5, Op.alloc 27, 0, none⟩, by kernel_rfl, rfl, ?_⟩, trivial⟩
          ·
            refine EV_alloc rfl in27 fun x5 hx => ?_
            rw [zz]
            have kaL := kaL.fr hx.fr (fun h => h)
            have kbL := kbL.fr hx.fr (fun h => h)
            have kaI := kaI.fr hx.fr (fun h => h)
            have fr := fr.newb hx
            have nn := hx.blk
            rw [zz] at nn
            have kbI : Blk x5.heap (s + 3) 27 [.slice none 0 0] := nn
            have zz : x5.heap.size = s + 4 := by have := hx.size; omega
            refine TX_all (rs := [6]) (by kernel_rfl) rfl ⟨⟨⟨none, Op.store 27 (Operand.tmp 5) (Operand.tmp 27), 0, none⟩, by kernel_rfl, rfl, ?_⟩, trivial⟩
            ·
              refine EV_store rfl rfl rfl sz27 kbI (by simp) fun x6 hx => ?_
              have kaL := kaL.fr hx.fr (by omega)
              have kbL := kbL.fr hx.fr (by omega)
              have kaI := kaI.fr hx.fr (by omega)
              have fr := fr.upd hx (by omega)
              have kbI : Blk x6.heap (s + 3) 27 [.slice (some ⟨s + 2, 0, none⟩) n n] := hx.blk
              have zz : x6.heap.size = s + 4 := by have := hx.size; omega
              refine TX_all (rs := [7]) (by kernel_rfl) rfl ⟨⟨⟨none, Op.store 27 (Operand.tmp 6) (Operand.tmp 29), 0, none⟩, by kernel_rfl, rfl, ?_⟩, trivial⟩
              ·
                refine EV_store rfl rfl rfl sz27 kbL (by simp) fun x7 hx => ?_
                have kaL := kaL.fr hx.fr (by omega)
                have kaI := kaI.fr hx.fr (by omega)
                have kbI := kbI.fr hx.fr (by omega)
                have fr := fr.upd hx (by omega)
                have kbL : Blk x7.heap (s + 1) 27 [.slice (some ⟨s + 0, 0, none⟩) n n] := hx.blk
                have zz : x7.heap.size = s + 4 := by have := hx.size; omega
                exact TX_nil (by kernel_rfl) ⟨⟨s, s + 2, s + 0, s + 3, s + 1⟩, tbok (by omega) (by omega) (by omega) (by omega) (by omega) (by omega) (by omega) (by omega) (by omega) (by omega), rfl, ⟨rfl, rfl, rfl, rfl, rfl, trivial⟩, fr, zz, kbI, kbL, kaI, kaL⟩
        ·
          refine EV_alloc rfl in27 fun x4 hx => ?_
          rw [zz]
          have kaL := kaL.fr hx.fr (fun h => h)
          have kbL := kbL.fr hx.fr (fun h => h)
          have fr := fr.newb hx
          have nn := hx.blk
          rw [zz] at nn
          have kbI : Blk x4.heap (s + 2) 27 [.slice none 0 0] := nn
          have zz : x4.heap.size = s + 3 := by have := hx.size; omega
          refine TX_all (rs := [1]) (by kernel_rfl) rfl ⟨⟨⟨some 27, Op.makeSlice 27 (Operand.tmp 26) (Operand.tmp 26), 27, none⟩, by kernel_rfl, rfl, ?_⟩, trivial⟩
          ·
            refine EV_make1 rfl rfl rfl el27 in3 rfl (by omega) (by omega) (by omega) fun x5 hx => ?_
            rw [zz]
            have kaL := kaL.fr hx.fr (fun h => h)
            have kbL := kbL.fr hx.fr (fun h => h)
            have kbI := kbI.fr hx.fr (fun h => h)
            have fr := fr.newb hx
            have nn := hx.blk
            rw [zz, nats_rep] at nn
            have kaI : Blk x5.heap (s + 3) 3 (nats (List.replicate n 0)) := nn
            have zz : x5.heap.size = s + 4 := by have := hx.size; omega
            refine TX_all (rs := [6]) (by kernel_rfl) rfl ⟨⟨⟨none, Op.store 27 (Operand.tmp 5) (Operand.tmp 27), 0, none⟩, by kernel_rfl, rfl, ?_⟩, trivial⟩
            ·
              refine EV_store rfl rfl rfl sz27 kbI (by simp) fun x6 hx => ?_
              have kaL := kaL.fr hx.fr (by omega)
              have kbL := kbL.fr hx.fr (by omega)
              have kaI := kaI.fr hx.fr (by omega)
              have fr := fr.upd hx (by omega)
              have kbI : Blk x6.heap (s + 2) 27 [.slice (some ⟨s + 3, 0, none⟩) n n] := hx.blk
              have zz : x6.heap.size = s + 4 := by have := hx.size; omega
              refine TX_all (rs := [7]) (by kernel_rfl) rfl ⟨⟨⟨none, Op.store 27 (Operand.tmp 6) (Operand.tmp 29), 0, none⟩, by kernel_rfl, rfl, ?_⟩, trivial⟩
              ·
                refine EV_store rfl rfl rfl sz27 kbL (by simp) fun x7 hx => ?_
                have kaL := kaL.fr hx.fr (by omega)
                have kbI := kbI.fr hx.fr (by omega)
                have kaI := kaI.fr hx.fr (by omega)
                have fr := fr.upd hx (by omega)
                have kbL : Blk x7.heap (s + 1) 27 [.slice (some ⟨s + 0, 0, none⟩) n n] := hx.blk
                have zz : x7.heap.size = s + 4 := by have := hx.size; omega
                exact TX_nil (by kernel_rfl) ⟨⟨s, s + 3, s + 0, s + 2, s + 1⟩, tbok (by omega) (by omega) (by omega) (by omega) (by omega) (by omega) (by omega) (by omega) (by omega) (by omega), rfl, ⟨rfl, rfl, rfl, rfl, rfl, trivial⟩, fr, zz, kbI, kbL, kaI, kaL⟩
    ·
      refine EV_alloc rfl in27 fun x2 hx => ?_
      rw [zz]
      have fr := fr.newb hx
      have nn := hx.blk
      rw [zz] at nn
      have kbI : Blk x2.heap (s + 0) 27 [.slice none 0 0] := nn
      have zz : x2.heap.size = s + 1 := by have := hx.size; omega
      refine TX_all (rs := [1, 3, 5]) (by kernel_rfl) rfl ⟨⟨⟨some 27, Op.makeSlice 27 (Operand.tmp 26) (Operand.tmp 26), 27, none⟩, by kernel_rfl, rfl, ?_⟩, ⟨⟨some 29, Op.makeSlice 27 (Operand.tmp 28) (Operand.tmp 28), 27, none⟩, by kernel_rfl, rfl, ?_⟩, ⟨⟨some 6, Op.alloc 27, 0, none⟩, by kernel_rfl, rfl, ?_⟩, trivial⟩
      ·
        refine EV_make1 rfl rfl rfl el27 in3 rfl (by omega) (by omega) (by omega) fun x3 hx => ?_
        rw [zz]
        have kbI := kbI.fr hx.fr (fun h => h)
        have fr := fr.newb hx
        have nn := hx.blk
        rw [zz, nats_rep] at nn
        have kaI : Blk x3.heap (s + 1) 3 (nats (List.replicate n 0)) := nn
        have zz : x3.heap.size = s + 2 := by have := hx.size; omega
        refine TX_all (rs := [3, 5]) (by kernel_rfl) rfl ⟨⟨⟨some 29, Op.makeSlice 27 (Operand.tmp 28) (Operand.tmp 28), 27, none⟩, by kernel_rfl, rfl, ?_⟩, ⟨⟨some 6, Op.alloc 27, 0, none⟩, by kernel_rfl, rfl, ?_⟩, trivial⟩
        ·
          refine EV_make1 rfl rfl rfl el27 in3 rfl (by omega) (by omega) (by omega) fun x4 hx => ?_
          rw [zz]
          have kbI := kbI.fr hx.fr (fun h => h)
          have kaI := kaI.fr hx.fr (fun h => h)
          have fr := fr.newb hx
          have nn := hx.blk
          rw [zz, nats_rep] at nn
          have kaL : Blk x4.heap (s + 2) 3 (nats (List.replicate n 0)) := nn
          have zz : x4.heap.size = s + 3 := by have := hx.size; omega
          refine TX_all (rs := [5]) (by kernel_rfl) rfl ⟨⟨⟨some 6, Op.alloc 27, 0, none⟩, by kernel_rfl, rfl, ?_⟩, trivial⟩
          ·
            refine EV_alloc rfl in27 fun x5 hx => ?_
            rw [zz]
            have kbI := kbI.fr hx.fr (fun h => h)
            have kaI := kaI.fr hx.fr (fun h => h)
            have kaL := kaL.fr hx.fr (fun h => h)
            have fr := fr.newb hx
            have nn := hx.blk
            rw [zz] at nn
            have kbL : Blk x5.heap (s + 3) 27 [.slice none 0 0] := nn
            have zz : x5.heap.size = s + 4 := by have := hx.size; omega
            refine TX_all (rs := [6]) (by kernel_rfl) rfl ⟨⟨⟨none, Op.store 27 (Operand.tmp 5) (Operand.tmp 27), 0, none⟩, by kernel_rfl, rfl, ?_⟩, trivial⟩
            ·
              refine EV_store rfl rfl rfl sz27 kbI (by simp) fun x6 hx => ?_
              have kaI := kaI.fr hx.fr (by omega)
              have kaL := kaL.fr hx.fr (by omega)
              have kbL := kbL.fr hx.fr (by omega)
              have fr := fr.upd hx (by omega)
              have kbI : Blk x6.heap (s + 0) 27 [.slice (some ⟨s + 1, 0, none⟩) n n] := hx.blk
              have zz : x6.heap.size = s + 4 := by have := hx.size; omega
              refine TX_all (rs := [7]) (by kernel_rfl) rfl ⟨⟨⟨none, Op.store 27 (Operand.tmp 6) (Operand.tmp 29), 0, none⟩, by kernel_rfl, rfl, ?_⟩, trivial⟩
              ·
                refine EV_store rfl rfl rfl sz27 kbL (by simp) fun x7 hx => ?_
                have kbI := kbI.fr hx.fr (by omega)
                have kaI := kaI.fr hx.fr (by omega)
                have kaL := kaL.fr hx.fr (by omega)
                have fr := fr.upd hx (by omega)
                have kbL : Blk x7.heap (s + 3) 27 [.slice (some ⟨s + 2, 0, none⟩) n n] := hx.blk
                have zz : x7.heap.size = s + 4 := by have := hx.size; omega
                exact TX_nil (by kernel_rfl) ⟨⟨s, s + 1, s + 2, s + 0, s + 3⟩, tbok (by omega) (by omega) (by omega) (by omega) (by omega) (by omega) (by omega) (by omega) (by omega) (by omega), rfl, ⟨rfl, rfl, rfl, rfl, rfl, trivial⟩, fr, zz, kbI, kbL, kaI, kaL⟩
        ·
          refine EV_alloc rfl in27 fun x4 hx => ?_
          rw [zz]
          have kbI := kbI.fr hx.fr (fun h => h)
          have kaI := kaI.fr hx.fr (fun h => h)
          have fr := fr.newb hx
          have nn := hx.blk
          rw [zz] at nn
          have kbL : Blk x4.heap (s + 2) 27 [.slice none 0 0] := nn
          have zz : x4.heap.size = s + 3 := by have := hx.size; omega
          refine TX_all (rs := [3, 6]) (by kernel_rfl) rfl ⟨⟨⟨some 29, Op.makeSlice 27 (Operand.tmp 28) (Operand.tmp 28), 27, none⟩, by kernel_rfl, rfl, ?_⟩, ⟨⟨none, Op.store 27 (Operand.tmp 5) (Operand.tmp 27), 0, none⟩, by kernel_rfl, rfl, ?_⟩, trivial⟩
          ·
            refine EV_make1 rfl rfl rfl el27 in3 rfl (by omega) (by omega) (by omega) fun x5 hx => ?_
            rw [zz]
            have kbI := kbI.fr hx.fr (fun h => h)
            have kaI := kaI.fr hx.fr (fun h => h)
            have kbL := kbL.fr hx.fr (fun h => h)
            have fr := fr.newb hx
            have nn := hx.blk
            rw [zz, nats_rep] at nn
            have kaL : Blk x5.heap (s + 3) 3 (nats (List.replicate n 0)) := nn
            have zz : x5.heap.size = s + 4 := by have := hx.size; omega
            refine TX_all (rs := [6]) (by kernel_rfl) rfl ⟨⟨⟨none, Op.store 27 (Operand.tmp 5) (Operand.tmp 27), 0, none⟩, by kernel_rfl, rfl, ?_⟩, trivial⟩
            ·
              refine EV_store rfl rfl rfl sz27 kbI (by simp) fun x6 hx => ?_
              have kaI := kaI.fr hx.fr (by omega)
              have kbL := kbL.fr hx.fr (by omega)
              have kaL := kaL.fr hx.fr (by omega)
              have fr := fr.upd hx (by omega)
              have kbI : Blk x6.heap (s + 0) 27 [.slice (some ⟨s + 1, 0, none⟩) n n] := hx.blk
              have zz : x6.heap.size = s + 4 := by have := hx.size; omega
              refine TX_all (rs := [7]) (by kernel_rfl) rfl ⟨⟨⟨none, Op.store 27 (Operand.tmp 6) (Operand.tmp 29), 0, none⟩, by kernel_rfl, rfl, ?_⟩, trivial⟩
              ·
                refine EV_store rfl rfl rfl sz27 kbL (by simp) fun x7 hx => ?_
                have kbI := kbI.fr hx.fr (by omega)
                have kaI := kaI.fr hx.fr (by omega)
                have kaL := kaL.fr hx.fr (by omega)
                have fr := fr.upd hx (by omega)
                have kbL : Blk x7.heap (s + 2) 27 [.slice (some ⟨s + 3, 0, none⟩) n n] := hx.blk
                have zz : x7.heap.size = s + 4 := by have := hx.size; omega
                exact TX_nil (by kernel_rfl) ⟨⟨s, s + 1, s + 3, s + 0, s + 2⟩, tbok (by omega) (by omega) (by omega) (by omega) (by omega) (by omega) (by omega) (by omega) (by omega) (by omega), rfl, ⟨rfl, rfl, rfl, rfl, rfl, trivial⟩, fr, zz, kbI, kbL, kaI, kaL⟩
          ·
            refine EV_store rfl rfl rfl sz27 kbI (by simp) fun x5 hx => ?_
            have kaI := kaI.fr hx.fr (by omega)
            have kbL := kbL.fr hx.fr (by omega)
            have fr := fr.upd hx (by omega)
            have kbI : Blk x5.heap (s + 0) 27 [.slice (some ⟨s + 1, 0, none⟩) n n] := hx.blk
            have zz : x5.heap.size = s + 3 := by have := hx.size; omega
            refine TX_all (rs := [3]) (by kernel_rfl) rfl ⟨⟨⟨some 29, Op.makeSlice 27 (Operand.tmp 28) (Operand.tmp 28), 27, none⟩, by kernel_rfl, rfl, ?_⟩, trivial⟩
            ·
              refine EV_make1 rfl rfl rfl el27 in3 rfl (by omega) (by omega) (by omega) fun x6 hx => ?_
              rw [zz]
              have kbI := kbI.fr hx.fr (fun h => h)
              have kaI := kaI.fr hx.fr (fun h => h)
              have kbL := kbL.fr hx.fr (fun h => h)
              have fr := fr.newb hx
              have nn := hx.blk
              rw [zz, nats_rep] at nn
              have kaL : Blk x6.heap (s + 3) 3 (nats (List.replicate n 0)) := nn
              have zz : x6.heap.size = s + 4 := by have := hx.size; omega
              refine TX_all (rs := [7]) (by kernel_rfl) rfl ⟨⟨⟨none, Op.store 27 (Operand.tmp 6) (Operand.tmp 29), 0, none⟩, by kernel_rfl, rfl, ?_⟩, trivial⟩
              ·
                refine EV_store rfl rfl rfl sz27 kbL (by simp) fun x7 hx => ?_
                have kbI := kbI.fr hx.fr (by omega)
                have kaI := kaI.fr hx.fr (by omega)
                have kaL := kaL.fr hx.fr (by omega)
                have fr := fr.upd hx (by omega)
                have kbL : Blk x7.heap (s + 2) 27 [.slice (some ⟨s + 3, 0, none⟩) n n] := hx.blk
                have zz : x7.heap.size = s + 4 := by have := hx.size; omega
                exact TX_nil (by kernel_rfl) ⟨⟨s, s + 1, s + 3, s + 0, s + 2⟩, tbok (by omega) (by omega) (by omega) (by omega) (by omega) (by omega) (by omega) (by omega) (by omega) (by omega), rfl, ⟨rfl, rfl, rfl, rfl, rfl, trivial⟩, fr, zz, kbI, kbL, kaI, kaL⟩
      ·
        refine EV_make1 rfl rfl rfl el27 in3 rfl (by omega) (by omega) (by omega) fun x3 hx => ?_
        rw [zz]
        have kbI := kbI.fr hx.fr (fun h => h)
        have fr := fr.newb hx
        have nn := hx.blk
        rw [zz, nats_rep] at nn
        have kaL : Blk x3.heap (s + 1) 3 (nats (List.replicate n 0)) := nn
        have zz : x3.heap.size = s + 2 := by have := hx.size; omega
        refine TX_all (rs := [1, 5]) (by kernel_rfl) rfl ⟨⟨⟨some 27, Op.makeSlice 27 (Operand.tmp 26) (Operand.tmp 26), 27, none⟩, by kernel_rfl, rfl, ?_⟩, ⟨⟨some 6, Op.alloc 27, 0, none⟩, by kernel_rfl, rfl, ?_⟩, trivial⟩
        ·
          refine EV_make1 rfl rfl rfl el27 in3 rfl (by omega) (by omega) (by omega) fun x4 hx => ?_
          rw [zz]
          have kbI := kbI.fr hx.fr (fun h => h)
          have kaL := kaL.fr hx.fr (fun h => h)
          have fr := fr.newb hx
          have nn := hx.blk
          rw [zz, nats_rep] at nn
          have kaI : Blk x4.heap (s + 2) 3 (nats (List.replicate n 0)) := nn
          have zz : x4.heap.size = s + 3 := by have := hx.size; omega
          refine TX_all (rs := [5]) (by kernel_rfl) rfl ⟨⟨⟨some 6, Op.alloc 27, 0, none⟩, by kernel_rfl, rfl, ?_⟩, trivial⟩
          ·
            refine EV_alloc rfl in27 fun x5 hx => ?_
            rw [zz]
            have kbI := kbI.fr hx.fr (fun h => h)
            have kaL := kaL.fr hx.fr (fun h => h)
            have kaI := kaI.fr hx.fr (fun h => h)
            have fr := fr.newb hx
            have nn := hx.blk
            rw [zz] at nn
            have kbL : Blk x5.heap (s + 3) 27 [.slice none 0 0] := nn
            have zz : x5.heap.size = s + 4 := by have := hx.size; omega
            refine TX_all (rs := [6]) (by kernel_rfl) rfl ⟨⟨⟨none, Op.store 27 (Operand.tmp 5) (Operand.tmp 27), 0, none⟩, by kernel_rfl, rfl, ?_⟩, trivial⟩
            ·
              refine EV_store rfl rfl rfl sz27 kbI (by simp) fun x6 hx => ?_
              have kaL := kaL.fr hx.fr (by omega)
              have kaI := kaI.fr hx.fr (by omega)
              have kbL := kbL.fr hx.fr (by omega)
              have fr := fr.upd hx (by omega)
              have kbI : Blk x6.heap (s + 0) 27 [.slice (some ⟨s + 2, 0, none⟩) n n] := hx.blk
              have zz : x6.heap.size = s + 4 := by have := hx.size; omega
              refine TX_all (rs := [7]) (by kernel_rfl) rfl ⟨⟨⟨none, Op.store 27 (Operand.tmp 6) (Operand.tmp 29), 0, none⟩, by kernel_rfl, rfl, ?_⟩, trivial⟩
              ·
                refine EV_store rfl rfl rfl sz27 kbL (by simp) fun x7 hx => ?_
                have kbI := kbI.fr hx.fr (by omega)
                have kaL := kaL.fr hx.fr (by omega)
                have kaI := kaI.fr hx.fr (by omega)
                have fr := fr.upd hx (by omega)
                have kbL : Blk x7.heap (s + 3) 27 [.slice (some ⟨s + 1, 0, none⟩) n n] := hx.blk
                have zz : x7.heap.size = s + 4 := by have := hx.size; omega
                exact TX_nil (by kernel_rfl) ⟨⟨s, s + 2, s + 1, s + 0, s + 3⟩, tbok (by omega) (by omega) (by omega) (by omega) (by omega) (by omega) (by omega) (by omega) (by omega) (by omega), rfl, ⟨rfl, rfl, rfl, rfl, rfl, trivial⟩, fr, zz, kbI, kbL, kaI, kaL⟩
        ·
          refine EV_alloc rfl in27 fun x4 hx => ?_
          rw [zz]
          have kbI := kbI.fr hx.fr (fun h => h)
          have kaL := kaL.fr hx.fr (fun h => h)
          have fr := fr.newb hx
          have nn := hx.blk
          rw [zz] at nn
          have kbL : Blk x4.heap (s + 2) 27 [.slice none 0 0] := nn
          have zz : x4.heap.size = s + 3 := by have := hx.size; omega
          refine TX_all (rs := [1]) (by kernel_rfl) rfl ⟨⟨⟨some 27, Op.makeSlice 27 (Operand.tmp 26) (Operand.tmp 26), 27, none⟩, by kernel_rfl, rfl, ?_⟩, trivial⟩
          ·
            refine EV_make1 rfl rfl rfl el27 in3 rfl (by omega) (by omega) (by omega) fun x5 hx => ?_
            rw [zz]
            have kbI := kbI.fr hx.fr (fun h => h)
            have kaL := kaL.fr hx.fr (fun h => h)
            have kbL := kbL.fr hx.fr (fun h => h)
            have fr := fr.newb hx
            have nn := hx.blk
            rw [zz, nats_rep] at nn
            have kaI : Blk x5.heap (s + 3) 3 (nats (List.replicate n 0)) := nn
            have zz : x5.heap.size = s + 4 := by have := hx.size; omega
            refine TX_all (rs := [6]) (by kernel_rfl) rfl ⟨⟨⟨none, Op.store 27 (Operand.tmp 5) (Operand.tmp 27), 0, none⟩, by kernel_rfl, rfl, ?_⟩, trivial⟩
            ·
              refine EV_store rfl rfl rfl sz27 kbI (by simp) fun x6 hx => ?_
              have kaL := kaL.fr hx.fr (by omega)
              have kbL := kbL.fr hx.fr (by omega)
              have kaI := kaI.fr hx.fr (by omega)
              have fr := fr.upd hx (by omega)
              have kbI : Blk x6.heap (s + 0) 27 [.slice (some ⟨s + 3, 0, none⟩) n n] := hx.blk
              have zz : x6.heap.size = s + 4 := by have := hx.size; omega
              refine TX_all (rs := [7]) (by kernel_rfl) rfl ⟨⟨⟨none, Op.store 27 (Operand.tmp 6) (Operand.tmp 29), 0, none⟩, by kernel_rfl, rfl, ?_⟩, trivial⟩
              ·
                refine EV_store rfl rfl rfl sz27 kbL (by simp) fun x7 hx => ?_
                have kbI := kbI.fr hx.fr (by omega)
                have kaL := kaL.fr hx.fr (by omega)
                have kaI := kaI.fr hx.fr (by omega)
                have fr := fr.upd hx (by omega)
                have kbL : Blk x7.heap (s + 2) 27 [.slice (some ⟨s + 1, 0, none⟩) n n] := hx.blk
                have zz : x7.heap.size = s + 4 := by have := hx.size; omega
                exact TX_nil (by kernel_rfl) ⟨⟨s, s + 3, s + 1, s + 0, s + 2⟩, tbok (by omega) (by omega) (by omega) (by omega) (by omega) (by omega) (by omega) (by omega) (by omega) (by omega), rfl, ⟨rfl, rfl, rfl, rfl, rfl, trivial⟩, fr, zz, kbI, kbL, kaI, kaL⟩
      ·
        refine EV_alloc rfl in27 fun x3 hx => ?_
        rw [zz]
        have kbI := kbI.fr hx.fr (fun h => h)
        have fr := fr.newb hx
        have nn := hx.blk
        rw [zz] at nn
        have kbL : Blk x3.heap (s + 1) 27 [.slice none 0 0] := nn
        have zz : x3.heap.size = s + 2 := by have := hx.size; omega
        refine TX_all (rs := [1, 3]) (by kernel_rfl) rfl ⟨⟨⟨some 27, Op.makeSlice 27 (Operand.tmp 26) (Operand.tmp 26), 27, none⟩, by kernel_rfl, rfl, ?_⟩, ⟨⟨some 29, Op.makeSlice 27 (Operand.tmp 28) (Operand.tmp 28), 27, none⟩, by kernel_rfl, rfl, ?_⟩, trivial⟩
        ·
          refine EV_make1 rfl rfl rfl el27 in3 rfl (by omega) (by omega) (by omega) fun x4 hx => ?_
          rw [zz]
          have kbI := kbI.fr hx.fr (fun h => h)
          have kbL := kbL.fr hx.fr (fun h => h)
          have fr := fr.newb hx
          have nn := hx.blk
          rw [zz, nats_rep] at nn
          have kaI : Blk x4.heap (s + 2) 3 (nats (List.replicate n 0)) := nn
          have zz : x4.heap.size = s + 3 := by have := hx.size; omega
          refine TX_all (rs := [3, 6]) (by kernel_rfl) rfl ⟨⟨⟨some 29, Op.makeSlice 27 (Operand.tmp 28) (Operand.tmp 28), 27, none⟩, by kernel_rfl, rfl, ?_⟩, ⟨⟨none, Op.store 27 (Operand.tmp 5) (Operand.tmp 27), 0, none⟩, by kernel_rfl, rfl, ?_⟩, trivial⟩
          ·
            refine EV_make1 rfl rfl rfl el27 in3 rfl (by omega) (by omega) (by omega) fun x5 hx => ?_
            rw [zz]
            have kbI := kbI.fr hx.fr (fun h => h)
            have kbL := kbL.fr hx.fr (fun h => h)
            have kaI := kaI.fr hx.fr (fun h => h)
            have fr := fr.newb hx
            have nn := hx.blk
            rw [zz, nats_rep] at nn
            have kaL : Blk x5.heap (s + 3) 3 (nats (List.replicate n 0)) := nn
            have zz : x5.heap.size = s + 4 := by have := hx.size; omega
            refine TX_all (rs := [6]) (by kernel_rfl) rfl ⟨⟨⟨none, Op.store 27 (Operand.tmp 5) (Operand.tmp 27), 0, none⟩, by kernel_rfl, rfl, ?_⟩, trivial⟩
            ·
              refine EV_store rfl rfl rfl sz27 kbI (by simp) fun x6 hx => ?_
              have kbL := kbL.fr hx.fr (by omega)
              have kaI := kaI.fr hx.fr (by omega)
              have kaL := kaL.fr hx.fr (by omega)
              have fr := fr.upd hx (by omega)
              have kbI : Blk x6.heap (s + 0) 27 [.slice (some ⟨s + 2, 0, none⟩) n n] := hx.blk
              have zz : x6.heap.size = s + 4 := by have := hx.size; omega
              refine TX_all (rs := [7]) (by kernel_rfl) rfl ⟨⟨⟨none, Op.store 27 (Operand.tmp 6) (Operand.tmp 29), 0, none⟩, by kernel_rfl, rfl, ?_⟩, trivial⟩
              ·
                refine EV_store rfl rfl rfl sz27 kbL (by simp) fun x7 hx => ?_
                have kbI := kbI.fr hx.fr (by omega)
                have kaI := kaI.fr hx.fr (by omega)
                have kaL := kaL.fr hx.fr (by omega)
                have fr := fr.upd hx (by omega)
                have kbL : Blk x7.heap (s + 1) 27 [.slice (some ⟨s + 3, 0, none⟩) n n] := hx.blk
                have zz : x7.heap.size = s + 4 := by have := hx.size; omega
                exact TX_nil (by kernel_rfl) ⟨⟨s, s + 2, s + 3, s + 0, s + 1⟩, tbok (by omega) (by omega) (by omega) (by omega) (by omega) (by omega) (by omega) (by omega) (by omega) (by omega), rfl, ⟨rfl, rfl, rfl, rfl, rfl, trivial⟩, fr, zz, kbI, kbL, kaI, kaL⟩
          ·
            refine EV_store rfl rfl rfl sz27 kbI (by simp) fun x5 hx => ?_
            have kbL := kbL.fr hx.fr (by omega)
            have kaI := kaI.fr hx.fr (by omega)
            have fr := fr.upd hx (by omega)
            have kbI : Blk x5.heap (s + 0) 27 [.slice (some ⟨s + 2, 0, none⟩) n n] := hx.blk
            have zz : x5.heap.size = s + 3 := by have := hx.size; omega
            refine TX_all (rs := [3]) (by kernel_rfl) rfl ⟨⟨⟨some 29, Op.makeSlice 27 (Operand.tmp 28) (Operand.tmp 28), 27, none⟩, by kernel_rfl, rfl, ?_⟩, trivial⟩
            ·
              refine EV_make1 rfl rfl rfl el27 in3 rfl (by omega) (by omega) (by omega) fun x6 hx => ?_
              rw [zz]
              have kbI := kbI.fr hx.fr (fun h => h)
              have kbL := kbL.fr hx.fr (fun h => h)
              have kaI := kaI.fr hx.fr (fun h => h)
              have fr := fr.newb hx
              have nn := hx.blk
              rw [zz, nats_rep] at nn
              have kaL : Blk x6.heap (s + 3) 3 (nats (List.replicate n 0)) := nn
              have zz : x6.heap.size = s + 4 := by have := hx.size; omega
              refine TX_all (rs := [7]) (by kernel_rfl) rfl ⟨⟨⟨none, Op.store 27 (Operand.tmp 6) (Operand.tmp 29), 0, none⟩, by kernel_rfl, rfl, ?_⟩, trivial⟩
              ·
                refine EV_store rfl rfl rfl sz27 kbL (by simp) fun x7 hx => ?_
                have kbI := kbI.fr hx.fr (by omega)
                have kaI := kaI.fr hx.fr (by omega)
                have kaL := kaL.fr hx.fr (by omega)
                have fr := fr.upd hx (by omega)
                have kbL : Blk x7.heap (s + 1) 27 [.slice (some ⟨s + 3, 0, none⟩) n n] := hx.blk
                have zz : x7.heap.size = s + 4 := by have := hx.size; omega
                exact TX_nil (by kernel_rfl) ⟨⟨s, s + 2, s + 3, s + 0, s + 1⟩, tbok (by omega) (by omega) (by omega) (by omega) (by omega) (by omega) (by omega) (by omega) (by omega) (by omega), rfl, ⟨rfl, rfl, rfl, rfl, rfl, trivial⟩, fr, zz, kbI, kbL, kaI, kaL⟩
        ·
          refine EV_make1 rfl rfl rfl el27 in3 rfl (by omega) (by omega) (by omega) fun x4 hx => ?_
          rw [zz]
          have kbI := kbI.fr hx.fr (fun h => h)
          have kbL := kbL.fr hx.fr (fun h => h)
          have fr := fr.newb hx
          have nn := hx.blk
          rw [zz, nats_rep] at nn
          have kaL : Blk x4.heap (s + 2) 3 (nats (List.replicate n 0)) := nn
          have zz : x4.heap.size = s + 3 := by have := hx.size; omega
          refine TX_all (rs := [1]) (by kernel_rfl) rfl ⟨⟨⟨some 27, Op.makeSlice 27 (Operand.tmp 26) (Operand.tmp 26), 27, none⟩, by kernel_rfl, rfl, ?_⟩, trivial⟩
          ·
            refine EV_make1 rfl rfl rfl el27 in3 rfl (by omega) (by omega) (by omega) fun x5 hx => ?_
            rw [zz]
            have kbI := kbI.fr hx.fr (fun h => h)
            have kbL := kbL.fr hx.fr (fun h => h)
            have kaL := kaL.fr hx.fr (fun h => h)
            have fr := fr.newb hx
            have nn := hx.blk
            rw [zz, nats_rep] at nn
            have kaI : Blk x5.heap (s + 3) 3 (nats (List.replicate n 0)) := nn
            have zz : x5.heap.size = s + 4 := by have := hx.size; omega
            refine TX_all (rs := [6]) (by kernel_rfl) rfl ⟨⟨⟨none, Op.store 27 (Operand.tmp 5) (Operand.tmp 27), 0, none⟩, by kernel_rfl, rfl, ?_⟩, trivial⟩
            ·
              refine EV_store rfl rfl rfl sz27 kbI (by simp) fun x6 hx => ?_
              have kbL := kbL.fr hx.fr (by omega)
              have kaL := kaL.fr hx.fr (by omega)
              have kaI := kaI.fr hx.fr (by omega)
              have fr := fr.upd hx (by omega)
              have kbI : Blk x6.heap (s + 0) 27 [.slice (some ⟨s + 3, 0, none⟩) n n] := hx.blk
              have zz : x6.heap.size = s + 4 := by have := hx.size; omega
              refine TX_all (rs := [7]) (by kernel_rfl) rfl ⟨⟨⟨none, Op.store 27 (Operand.tmp 6) (Operand.tmp 29), 0, none⟩, by kernel_rfl, rfl, ?_⟩, trivial⟩
              ·
                refine EV_store rfl rfl rfl sz27 kbL (by simp) fun x7 hx => ?_
                have kbI := kbI.fr hx.fr (by omega)
                have kaL := kaL.fr hx.fr (by omega)
                have kaI := kaI.fr hx.fr (by omega)
                have fr := fr.upd hx (by omega)
                have kbL : Blk x7.heap (s + 1) 27 [.slice (some ⟨s + 2, 0, none⟩) n n] := hx.blk
                have zz : x7.heap.size = s + 4 := by have := hx.size; omega
                exact TX_nil (by kernel_rfl) ⟨⟨s, s + 3, s + 2, s + 0, s + 1⟩, tbok (by omega) (by omega) (by omega) (by omega) (by omega) (by omega) (by omega) (by omega) (by omega) (by omega), rfl, ⟨rfl, rfl, rfl, rfl, rfl, trivial⟩, fr, zz, kbI, kbL, kaI, kaL⟩
    ·
      refine EV_alloc rfl in27 fun x2 hx => ?_
      rw [zz]
      have fr := fr.newb hx
      have nn := hx.blk
      rw [zz] at nn
      have kbL : Blk x2.heap (s + 0) 27 [.slice none 0 0] := nn
      have zz : x2.heap.size = s + 1 := by have := hx.size; omega
      refine TX_all (rs := [1, 3, 4]) (by kernel_rfl) rfl ⟨⟨⟨some 27, Op.makeSlice 27 (Operand.tmp 26) (Operand.tmp 26), 27, none⟩, by kernel_rfl, rfl, ?_⟩, ⟨⟨some 29, Op.makeSlice 27 (Operand.tmp 28) (Operand.tmp 28), 27, none⟩, by kernel_rfl, rfl, ?_⟩, ⟨⟨some 5, Op.alloc 27, 0, none⟩, by kernel_rfl, rfl, ?_⟩, trivial⟩
      ·
        refine EV_make1 rfl rfl rfl el27 in3 rfl (by omega) (by omega) (by omega) fun x3 hx => ?_
        rw [zz]
        have kbL := kbL.fr hx.fr (fun h => h)
        have fr := fr.newb hx
        have nn := hx.blk
        rw [zz, nats_rep] at nn
        have kaI : Blk x3.heap (s + 1) 3 (nats (List.replicate n 0)) := nn
        have zz : x3.heap.size = s + 2 := by have := hx.size; omega
        refine TX_all (rs := [3, 4]) (by kernel_rfl) rfl ⟨⟨⟨some 29, Op.makeSlice 27 (Operand.tmp 28) (Operand.tmp 28), 27, none⟩, by kernel_rfl, rfl, ?_⟩, ⟨⟨some 5, Op.alloc 27, 0, none⟩, by kernel_rfl, rfl, ?_⟩, trivial⟩
        ·
          refine EV_make1 rfl rfl rfl el27 in3 rfl (by omega) (by omega) (by omega) fun x4 hx => ?_
          rw [zz]
          have kbL := kbL.fr hx.fr (fun h => h)
          have kaI := kaI.fr hx.fr (fun h => h)
          have fr := fr.newb hx
          have nn := hx.blk
          rw [zz, nats_rep] at nn
          have kaL : Blk x4.heap (s + 2) 3 (nats (List.replicate n 0)) := nn
          have zz : x4.heap.size = s + 3 := by have := hx.size; omega
          refine TX_all (rs := [4]) (by kernel_rfl) rfl ⟨⟨⟨some 5, Op.alloc 27, 0, none⟩, by kernel_rfl, rfl, ?_⟩, trivial⟩
          ·
            refine EV_alloc rfl in27 fun x5 hx => ?_
            rw [zz]
            have kbL := kbL.fr hx.fr (fun h => h)
            have kaI := kaI.fr hx.fr (fun h => h)
            have kaL := kaL.fr hx.fr (fun h => h)
            have fr := fr.newb hx
            have nn := hx.blk
            rw [zz] at nn
            have kbI : Blk x5.heap (s + 3) 27 [.slice none 0 0] := nn
            have zz : x5.heap.size = s + 4 := by have := hx.size; omega
            refine TX_all (rs := [6]) (by kernel_rfl) rfl ⟨⟨⟨none, Op.store 27 (Operand.tmp 5) (Operand.tmp 27), 0, none⟩, by kernel_rfl, rfl, ?_⟩, trivial⟩
            ·
              refine EV_store rfl rfl rfl sz27 kbI (by simp) fun x6 hx => ?_
              have kbL := kbL.fr hx.fr (by omega)
              have kaI := kaI.fr hx.fr (by omega)
              have kaL := kaL.fr hx.fr (by omega)
              have fr := fr.upd hx (by omega)
              have kbI : Blk x6.heap (s + 3) 27 [.slice (some ⟨s + 1, 0, none⟩) n n] := hx.blk
              have zz : x6.heap.size = s + 4 := by have := hx.size; omega
              refine TX_all (rs := [7]) (by kernel_rfl) rfl ⟨⟨⟨none, Op.store 27 (Operand.tmp 6) (Operand.tmp 29), 0, none⟩, by kernel_rfl, rfl, ?_⟩, trivial⟩
              ·
                refine EV_store rfl rfl rfl sz27 kbL (by simp) fun x7 hx => ?_
                have kaI := kaI.fr hx.fr (by omega)
                have kaL := kaL.fr hx.fr (by omega)
                have kbI := kbI.fr hx.fr (by omega)
                have fr := fr.upd hx (by omega)
                have kbL : Blk x7.heap (s + 0) 27 [.slice (some ⟨s + 2, 0, none⟩) n n] := hx.blk
                have zz : x7.heap.size = s + 4 := by have := hx.size; omega
                exact TX_nil (by kernel_rfl) ⟨⟨s, s + 1, s + 2, s + 3, s + 0⟩, tbok (by omega) (by omega) (by omega) (by omega) (by omega) (by omega) (by omega) (by omega) (by omega) (by omega), rfl, ⟨rfl, rfl, rfl, rfl, rfl, trivial⟩, fr, zz, kbI, kbL, kaI, kaL⟩
        ·
          refine EV_alloc rfl in27 fun x4 hx => ?_
          rw [zz]
          have kbL := kbL.fr hx.fr (fun h => h)
          have kaI := kaI.fr hx.fr (fun h => h)
          have fr := fr.newb hx
          have nn := hx.blk
          rw [zz] at nn
          have kbI : Blk x4.heap (s + 2) 27 [.slice none 0 0] := nn
          have zz : x4.heap.size = s + 3 := by have := hx.size; omega
          refine TX_all (rs := [3, 6]) (by kernel_rfl) rfl ⟨⟨⟨some 29, Op.makeSlice 27 (Operand.tmp 28) (Operand.tmp 28), 27, none⟩, by kernel_rfl, rfl, ?_⟩, ⟨⟨none, Op.store 27 (Operand.tmp 5) (Operand.tmp 27), 0, none⟩, by kernel_rfl, rfl, ?_⟩, trivial⟩
          ·
            refine EV_make1 rfl rfl rfl el27 in3 rfl (by omega) (by omega) (by omega) fun x5 hx => ?_
            rw [zz]
            have kbL := kbL.fr hx.fr (fun h => h)
            have kaI := kaI.fr hx.fr (fun h => h)
            have kbI := kbI.fr hx.fr (fun h => h)
            have fr := fr.newb hx
            have nn := hx.blk
            rw [zz, nats_rep] at nn
            have kaL : Blk x5.heap (s + 3) 3 (nats (List.replicate n 0)) := nn
            have zz : x5.heap.size = s + 4 := by have := hx.size; omega
            refine TX_all (rs := [6]) (by kernel_rfl) rfl ⟨⟨⟨none, Op.store 27 (Operand.tmp 5) (Operand.tmp 27), 0, none⟩, by kernel_rfl, rfl, ?_⟩, trivial⟩
            ·
              refine EV_store rfl rfl rfl sz27 kbI (by simp) fun x6 hx => ?_
              have kbL := kbL.fr hx.fr (by omega)
              have kaI := kaI.fr hx.fr (by omega)
              have kaL := kaL.fr hx.fr (by omega)
              have fr := fr.upd hx (by omega)
              have kbI : Blk x6.heap (s + 2) 27 [.slice (some ⟨s + 1, 0, none⟩) n n] := hx.blk
              have zz : x6.heap.size = s + 4 := by have := hx.size; omega
              refine TX_all (rs := [7]) (by kernel_rfl) rfl ⟨⟨⟨none, Op.store 27 (Operand.tmp 6) (Operand.tmp 29), 0, none⟩, by kernel_rfl, rfl, ?_⟩, trivial⟩
              ·
                refine EV_store rfl rfl rfl sz27 kbL (by simp) fun x7 hx => ?_
                have kaI := kaI.fr hx.fr (by omega)
                have kbI := kbI.fr hx.fr (by omega)
                have kaL := kaL.fr hx.fr (by omega)
                have fr := fr.upd hx (by omega)
                have kbL : Blk x7.heap (s + 0) 27 [.slice (some ⟨s + 3, 0, none⟩) n n] := hx.blk
                have zz : x7.heap.size = s + 4 := by have := hx.size; omega
                exact TX_nil (by kernel_rfl) ⟨⟨s, s + 1, s + 3, s + 2, s + 0⟩, tbok (by omega) (by omega) (by omega) (by omega) (by omega) (by omega) (by omega) (by omega) (by omega) (by omega), rfl, ⟨rfl, rfl, rfl, rfl, rfl, trivial⟩, fr, zz, kbI, kbL, kaI, kaL⟩
          ·
            refine EV_store rfl rfl rfl sz27 kbI (by simp) fun x5 hx => ?_
            have kbL := kbL.fr hx.fr (by omega)
            have kaI := kaI.fr hx.fr (by omega)
            have fr := fr.upd hx (by omega)
            have kbI : Blk x5.heap (s + 2) 27 [.slice (some ⟨s + 1, 0, none⟩) n n] := hx.blk
            have zz : x5.heap.size = s + 3 := by have := hx.size; omega
            refine TX_all (rs := [3]) (by kernel_rfl) rfl ⟨⟨⟨some 29, Op.makeSlice 27 (Operand.tmp 28) (Operand.tmp 28), 27, none⟩, by kernel_rfl, rfl, ?_⟩, trivial⟩
            ·
              refine EV_make1 rfl rfl rfl el27 in3 rfl (by omega) (by omega) (by omega) fun x6 hx => ?_
              rw [zz]
              have kbL := kbL.fr hx.fr (fun h => h)
              have kaI := kaI.fr hx.fr (fun h => h)
              have kbI := kbI.fr hx.fr (fun h => h)
              have fr := fr.newb hx
              have nn := hx.blk
              rw [zz, nats_rep] at nn
              have kaL : Blk x6.heap (s + 3) 3 (nats (List.replicate n 0)) := nn
              have zz : x6.heap.size = s + 4 := by have := hx.size; omega
              refine TX_all (rs := [7]) (by kernel_rfl) rfl ⟨⟨⟨none, Op.store 27 (Operand.tmp 6) (Operand.tmp 29), 0, none⟩, by kernel_rfl, rfl, ?_⟩, trivial⟩
              ·
                refine EV_store rfl rfl rfl sz27 kbL (by simp) fun x7 hx => ?_
                have kaI := kaI.fr hx.fr (by omega)
                have kbI := kbI.fr hx.fr (by omega)
                have kaL := kaL.fr hx.fr (by omega)
                have fr := fr.upd hx (by omega)
                have kbL : Blk x7.heap (s + 0) 27 [.slice (some ⟨s + 3, 0, none⟩) n n] := hx.blk
                have zz : x7.heap.size = s + 4 := by have := hx.size; omega
                exact TX_nil (by kernel_rfl) ⟨⟨s, s + 1, s + 3, s + 2, s + 0⟩, tbok (by omega) (by omega) (by omega) (by omega) (by omega) (by omega) (by omega) (by omega) (by omega) (by omega), rfl, ⟨rfl, rfl, rfl, rfl, rfl, trivial⟩, fr, zz, kbI, kbL, kaI, kaL⟩
      ·
        refine EV_make1 rfl rfl rfl el27 in3 rfl (by omega) (by omega) (by omega) fun x3 hx => ?_
        rw [zz]
        have kbL := kbL.fr hx.fr (fun h => h)
        have fr := fr.newb hx
        have nn := hx.blk
        rw [zz, nats_rep] at nn
        have kaL : Blk x3.heap (s + 1) 3 (nats (List.replicate n 0)) := nn
        have zz : x3.heap.size = s + 2 := by have := hx.size; omega
        refine TX_all (rs := [1, 4]) (by kernel_rfl) rfl ⟨⟨⟨some 27, Op.makeSlice 27 (Operand.tmp 26) (Operand.tmp 26), 27, none⟩, by kernel_rfl, rfl, ?_⟩, ⟨⟨some 5, Op.alloc 27, 0, none⟩, by kernel_rfl, rfl, ?_⟩, trivial⟩
        ·
          refine EV_make1 rfl rfl rfl el27 in3 rfl (by omega) (by omega) (by omega) fun x4 hx => ?_
          rw [zz]
          have kbL := kbL.fr hx.fr (fun h => h)
          have kaL := kaL.fr hx.fr (fun h => h)
          have fr := fr.newb hx
          have nn := hx.blk
          rw [zz, nats_rep] at nn
          have kaI : Blk x4.heap (s + 2) 3 (nats (List.replicate n 0)) := nn
          have zz : x4.heap.size = s + 3 := by have := hx.size; omega
          refine TX_all (rs := [4]) (by kernel_rfl) rfl ⟨⟨⟨some 5, Op.alloc 27, 0, none⟩, by kernel_rfl, rfl, ?_⟩, trivial⟩
          ·
            refine EV_alloc rfl in27 fun x5 hx => ?_
            rw [zz]
            have kbL := kbL.fr hx.fr (fun h => h)
            have kaL := kaL.fr hx.fr (fun h => h)
            have kaI := kaI.fr hx.fr (fun h => h)
            have fr := fr.newb hx
            have nn := hx.blk
            rw [zz] at nn
            have kbI : Blk x5.heap (s + 3) 27 [.slice none 0 0] := nn
            have zz : x5.heap.size = s + 4 := by have := hx.size; omega
            refine TX_all (rs := [6]) (by kernel_rfl) rfl ⟨⟨⟨none, Op.store 27 (Operand.tmp 5) (Operand.tmp 27), 0, none⟩, by kernel_rfl, rfl, ?_⟩, trivial⟩
            ·
              refine EV_store rfl rfl rfl sz27 kbI (by simp) fun x6 hx => ?_
              have kbL := kbL.fr hx.fr (by omega)
              have kaL := kaL.fr hx.fr (by omega)
              have kaI := kaI.fr hx.fr (by omega)
              have fr := fr.upd hx (by omega)
              have kbI : Blk x6.heap (s + 3) 27 [.slice (some ⟨s + 2, 0, none⟩) n n] := hx.blk
              have zz : x6.heap.size = s + 4 := by have := hx.size; omega
              refine TX_all (rs := [7]) (by kernel_rfl) rfl ⟨⟨⟨none, Op.store 27 (Operand.tmp 6) (Operand.tmp 29), 0, none⟩, by kernel_rfl, rfl, ?_⟩, trivial⟩
              ·
                refine EV_store rfl rfl rfl sz27 kbL (by simp) fun x7 hx => ?_
                have kaL := kaL.fr hx.fr (by omega)
                have kaI := kaI.fr hx.fr (by omega)
                have kbI := kbI.fr hx.fr (by omega)
                have fr := fr.upd hx (by omega)
                have kbL : Blk x7.heap (s + 0) 27 [.slice (some ⟨s + 1, 0, none⟩) n n] := hx.blk
                have zz : x7.heap.size = s + 4 := by have := hx.size; omega
                exact TX_nil (by kernel_rfl) ⟨⟨s, s + 2, s + 1, s + 3, s + 0⟩, tbok (by omega) (by omega) (by omega) (by omega) (by omega) (by omega) (by omega) (by omega) (by omega) (by omega), rfl, ⟨rfl, rfl, rfl, rfl, rfl, trivial⟩, fr, zz, kbI, kbL, kaI, kaL⟩
        ·
          refine EV_alloc rfl in27 fun x4 hx => ?_
          rw [zz]
          have kbL := kbL.fr hx.fr (fun h => h)
          have kaL := kaL.fr hx.fr (fun h => h)
          have fr := fr.newb hx
          have nn := hx.blk
          rw [zz] at nn
          have kbI : Blk x4.heap (s + 2) 27 [.slice none 0 0] := nn
          have zz : x4.heap.size = s + 3 := by have := hx.size; omega
          refine TX_all (rs := [1]) (by kernel_rfl) rfl ⟨⟨⟨some 27, Op.makeSlice 27 (Operand.tmp 26) (Operand.tmp 26), 27, none⟩, by kernel_rfl, rfl, ?_⟩, trivial⟩
          ·
            refine EV_make1 rfl rfl rfl el27 in3 rfl (by omega) (by omega) (by omega) fun x5 hx => ?_
            rw [zz]
            have kbL := kbL.fr hx.fr (fun h => h)
            have kaL := kaL.fr hx.fr (fun h => h)
            have kbI := kbI.fr hx.fr (fun h => h)
            have fr := fr.newb hx
            have nn := hx.blk
            rw [zz, nats_rep] at nn
            have kaI : Blk x5.heap (s + 3) 3 (nats (List.replicate n 0)) := nn
            have zz : x5.heap.size = s + 4 := by have := hx.size; omega
            refine TX_all (rs := [6]) (by kernel_rfl) rfl ⟨⟨⟨none, Op.store 27 (Operand.tmp 5) (Operand.tmp 27), 0, none⟩, by kernel_rfl, rfl, ?_⟩, trivial⟩
            ·
              refine EV_store rfl rfl rfl sz27 kbI (by simp) fun x6 hx => ?_
              have kbL := kbL.fr hx.fr (by omega)
              have kaL := kaL.fr hx.fr (by omega)
              have kaI := kaI.fr hx.fr (by omega)
              have fr := fr.upd hx (by omega)
              have kbI : Blk x6.heap (s + 2) 27 [.slice (some ⟨s + 3, 0, none⟩) n n] := hx.blk
              have zz : x6.heap.size = s + 4 := by have := hx.size; omega
              refine TX_all (rs := [7]) (by kernel_rfl) rfl ⟨⟨⟨none, Op.store 27 (Operand.tmp 6) (Operand.tmp 29), 0, none⟩, by kernel_rfl, rfl, ?_⟩, trivial⟩
              ·
                refine EV_store rfl rfl rfl sz27 kbL (by simp) fun x7 hx => ?_
                have kaL := kaL.fr hx.fr (by omega)
                have kbI := kbI.fr hx.fr (by omega)
                have kaI := kaI.fr hx.fr (by omega)
                have fr := fr.upd hx (by omega)
                have kbL : Blk x7.heap (s + 0) 27 [.slice (some ⟨s + 1, 0, none⟩) n n] := hx.blk
                have zz : x7.heap.size = s + 4 := by have := hx.size; omega
                exact TX_nil (by kernel_rfl) ⟨⟨s, s + 3, s + 1, s + 2, s + 0⟩, tbok (by omega) (by omega) (by omega) (by omega) (by omega) (by omega) (by omega) (by omega) (by omega) (by omega), rfl, ⟨rfl, rfl, rfl, rfl, rfl, trivial⟩, fr, zz, kbI, kbL, kaI, kaL⟩
      ·
        refine EV_alloc rfl in27 fun x3 hx => ?_
        rw [zz]
        have kbL := kbL.fr hx.fr (fun h => h)
        have fr := fr.newb hx
        have nn := hx.blk
        rw [zz] at nn
        have kbI : Blk x3.heap (s + 1) 27 [.slice none 0 0] := nn
        have zz : x3.heap.size = s + 2 := by have := hx.size; omega
        refine TX_all (rs := [1, 3]) (by kernel_rfl) rfl ⟨⟨⟨some 27, Op.makeSlice 27 (Operand.tmp 26) (Operand.tmp 26), 27, none⟩, by kernel_rfl, rfl, ?_⟩, ⟨⟨some 29, Op.makeSlice 27 (Operand.tmp 28) (Operand.tmp 28), 27, none⟩, by kernel_rfl, rfl, ?_⟩, trivial⟩
        ·
          refine EV_make1 rfl rfl rfl el27 in3 rfl (by omega) (by omega) (by omega) fun x4 hx => ?_
          rw [zz]
          have kbL := kbL.fr hx.fr (fun h => h)
          have kbI := kbI.fr hx.fr (fun h => h)
          have fr := fr.newb hx
          have nn := hx.blk
          rw [zz, nats_rep] at nn
          have kaI : Blk x4.heap (s + 2) 3 (nats (List.replicate n 0)) := nn
          have zz : x4.heap.size = s + 3 := by have := hx.size; omega
          refine TX_all (rs := [3, 6]) (by kernel_rfl) rfl ⟨⟨⟨some 29, Op.makeSlice 27 (Operand.tmp 28) (Operand.tmp 28), 27, none⟩, by kernel_rfl, rfl, ?_⟩, ⟨⟨none, Op.store 27 (Operand.tmp 5) (Operand.tmp 27), 0, none⟩, by kernel_rfl, rfl, ?_⟩, trivial⟩
          ·
            refine EV_make1 rfl rfl rfl el27 in3 rfl (by omega) (by omega) (by omega) fun x5 hx => ?_
            rw [zz]
            have kbL := kbL.fr hx.fr (fun h => h)
            have kbI := kbI.fr hx.fr (fun h => h)
            have kaI := kaI.fr hx.fr (fun h => h)
            have fr := fr.newb hx
            have nn := hx.blk
            rw [zz, nats_rep] at nn
            have kaL : Blk x5.heap (s + 3) 3 (nats (List.replicate n 0)) := nn
            have zz : x5.heap.size = s + 4 := by have := hx.size; omega
            refine TX_all (rs := [6]) (by kernel_rfl) rfl ⟨⟨⟨none, Op.store 27 (Operand.tmp 5) (Operand.tmp 27), 0, none⟩, by kernel_rfl, rfl, ?_⟩, trivial⟩
            ·
              refine EV_store rfl rfl rfl sz27 kbI (by simp) fun x6 hx => ?_
              have kbL := kbL.fr hx.fr (by omega)
              have kaI := kaI.fr hx.fr (by omega)
              have kaL := kaL.fr hx.fr (by omega)
              have fr := fr.upd hx (by omega)
              have kbI : Blk x6.heap (s + 1) 27 [.slice (some ⟨s + 2, 0, none⟩) n n] := hx.blk
              have zz : x6.heap.size = s + 4 := by have := hx.size; omega
              refine TX_all (rs := [7]) (by kernel_rfl) rfl ⟨⟨⟨none, Op.store 27 (Operand.tmp 6) (Operand.tmp 29), 0, none⟩, by kernel_rfl, rfl, ?_⟩, trivial⟩
              ·
                refine EV_store rfl rfl rfl sz27 kbL (by simp) fun x7 hx => ?_
                have kbI := kbI.fr hx.fr (by omega)
                have kaI := kaI.fr hx.fr (by omega)
                have kaL := kaL.fr hx.fr (by omega)
                have fr := fr.upd hx (by omega)
                have kbL : Blk x7.heap (s + 0) 27 [.slice (some ⟨s + 3, 0, none⟩) n n] := hx.blk
                have zz : x7.heap.size = s + 4 := by have := hx.size; omega
                exact TX_nil (by kernel_rfl) ⟨⟨s, s + 2, s + 3, s + 1, s + 0⟩, tbok (by omega) (by omega) (by omega) (by omega) (by omega) (by omega) (by omega) (by omega) (by omega) (by omega), rfl, ⟨rfl, rfl, rfl, rfl, rfl, trivial⟩, fr, zz, kbI, kbL, kaI, kaL⟩
          ·
            refine EV_store rfl rfl rfl sz27 kbI (by simp) fun x5 hx => ?_
            have kbL := kbL.fr hx.fr (by omega)
            have kaI := kaI.fr hx.fr (by omega)
            have fr := fr.upd hx (by omega)
            have kbI : Blk x5.heap (s + 1) 27 [.slice (some ⟨s + 2, 0, none⟩) n n] := hx.blk
            have zz : x5.heap.size = s + 3 := by have := hx.size; omega
            refine TX_all (rs := [3]) (by kernel_rfl) rfl ⟨⟨⟨some 29, Op.makeSlice 27 (Operand.tmp 28) (Operand.tmp 28), 27, none⟩, by kernel_rfl, rfl, ?_⟩, trivial⟩
            ·
              refine EV_make1 rfl rfl rfl el27 in3 rfl (by omega) (by omega) (by omega) fun x6 hx => ?_
              rw [zz]
              have kbL := kbL.fr hx.fr (fun h => h)
              have kbI := kbI.fr hx.fr (fun h => h)
              have kaI := kaI.fr hx.fr (fun h => h)
              have fr := fr.newb hx
              have nn := hx.blk
              rw [zz, nats_rep] at nn
              have kaL : Blk x6.heap (s + 3) 3 (nats (List.replicate n 0)) := nn
              have zz : x6.heap.size = s + 4 := by have := hx.size; omega
              refine TX_all (rs := [7]) (by kernel_rfl) rfl ⟨⟨⟨none, Op.store 27 (Operand.tmp 6) (Operand.tmp 29), 0, none⟩, by kernel_rfl, rfl, ?_⟩, trivial⟩
              ·
                refine EV_store rfl rfl rfl sz27 kbL (by simp) fun x7 hx => ?_
                have kbI := kbI.fr hx.fr (by omega)
                have kaI := kaI.fr hx.fr (by omega)
                have kaL := kaL.fr hx.fr (by omega)
                have fr := fr.upd hx (by omega)
                have kbL : Blk x7.heap (s + 0) 27 [.slice (some ⟨s + 3, 0, none⟩) n n] := hx.blk
                have zz : x7.heap.size = s + 4 := by have := hx.size; omega
                exact TX_nil (by kernel_rfl) ⟨⟨s, s + 2, s + 3, s + 1, s + 0⟩, tbok (by omega) (by omega) (by omega) (by omega) (by omega) (by omega) (by omega) (by omega) (by omega) (by omega), rfl, ⟨rfl, rfl, rfl, rfl, rfl, trivial⟩, fr, zz, kbI, kbL, kaI, kaL⟩
        ·
          refine EV_make1 rfl rfl rfl el27 in3 rfl (by omega) (by omega) (by omega) fun x4 hx => ?_
          rw [zz]
          have kbL := kbL.fr hx.fr (fun h => h)
          have kbI := kbI.fr hx.fr (fun h => h)
          have fr := fr.newb hx
          have nn := hx.blk
          rw [zz, nats_rep] at nn
          have kaL : Blk x4.heap (s + 2) 3 (nats (List.replicate n 0)) := nn
          have zz : x4.heap.size = s + 3 := by have := hx.size; omega
          refine TX_all (rs := [1]) (by kernel_rfl) rfl ⟨⟨⟨some 27, Op.makeSlice 27 (Operand.tmp 26) (Operand.tmp 26), 27, none⟩, by kernel_rfl, rfl, ?_⟩, trivial⟩
          ·
            refine EV_make1 rfl rfl rfl el27 in3 rfl (by omega) (by omega) (by omega) fun x5 hx => ?_
            rw [zz]
            have kbL := kbL.fr hx.fr (fun h => h)
            have kbI := kbI.fr hx.fr (fun h => h)
            have kaL := kaL.fr hx.fr (fun h => h)
            have fr := fr.newb hx
            have nn := hx.blk
            rw [zz, nats_rep] at nn
            have kaI : Blk x5.heap (s + 3) 3 (nats (List.replicate n 0)) := nn
            have zz : x5.heap.size = s + 4 := by have := hx.size; omega
            refine TX_all (rs := [6]) (by kernel_rfl) rfl ⟨⟨⟨none, Op.store 27 (Operand.tmp 5) (Operand.tmp 27), 0, none⟩, by kernel_rfl, rfl, ?_⟩, trivial⟩
            ·
              refine EV_store rfl rfl rfl sz27 kbI (by simp) fun x6 hx => ?_
              have kbL := kbL.fr hx.fr (by omega)
              have kaL := kaL.fr hx.fr (by omega)
              have kaI := kaI.fr hx.fr (by omega)
              have fr := fr.upd hx (by omega)
              have kbI : Blk x6.heap (s + 1) 27 [.slice (some ⟨s + 3, 0, none⟩) n n] := hx.blk
              have zz : x6.heap.size = s + 4 := by have := hx.size; omega
              refine TX_all (rs := [7]) (by kernel_rfl) rfl ⟨⟨⟨none, Op.store 27 (Operand.tmp 6) (Operand.tmp 29), 0, none⟩, by kernel_rfl, rfl, ?_⟩, trivial⟩
              ·
                refine EV_store rfl rfl rfl sz27 kbL (by simp) fun x7 hx => ?_
                have kbI := kbI.fr hx.fr (by omega)
                have kaL := kaL.fr hx.fr (by omega)
                have kaI := kaI.fr hx.fr (by omega)
                have fr := fr.upd hx (by omega)
                have kbL : Blk x7.heap (s + 0) 27 [.slice (some ⟨s + 2, 0, none⟩) n n] := hx.blk
                have zz : x7.heap.size = s + 4 := by have := hx.size; omega
                exact TX_nil (by kernel_rfl) ⟨⟨s, s + 3, s + 2, s + 1, s + 0⟩, tbok (by omega) (by omega) (by omega) (by omega) (by omega) (by omega) (by omega) (by omega) (by omega) (by omega), rfl, ⟨rfl, rfl, rfl, rfl, rfl, trivial⟩, fr, zz, kbI, kbL, kaI, kaL⟩
  rintro E1 w1 ⟨B, hB, hBs, hsub, fr, zz, kbI, kbL, kaI, kaL⟩
  refine T.env (E' := [(0, .pointer (some ⟨L.s + 9, 0, none⟩)), (3, .slice none 0 0), (4, .int .i64 (n : Int)), (5, .pointer (some ⟨B.bI, 0, none⟩)), (6, .pointer (some ⟨B.bL, 0, none⟩))]) ?_ hsub
  subst hBs
  obtain ⟨i1, i2, i3, i4, d1, d2, d3, d4, d5, d6⟩ := id hB
  refine W_seq (by kernel_rfl) ?_
  -- R3
  refine W_reg (l := [⟨some 30, Op.move (Operand.tmp 4), 3, none⟩, ⟨some 31, Op.makeSlice 37 (Operand.tmp 30) (Operand.tmp 30), 37, none⟩, ⟨some 7, Op.alloc 37, 0, none⟩, ⟨none, Op.store 37 (Operand.tmp 7) (Operand.tmp 31), 0, none⟩]) (by kernel_rfl) (by kernel_rfl) ?_
  refine TL_q rfl (QV_move rfl) ?_
  refine TL_e (EV_make1 rfl rfl rfl el37 in4 rfl (by omega) (by omega) (by omega) fun w2 h2 => ?_)
  have kbI := kbI.fr h2.fr (fun h => h)
  have kbL := kbL.fr h2.fr (fun h => h)
  have kaI := kaI.fr h2.fr (fun h => h)
  have kaL := kaL.fr h2.fr (fun h => h)
  have fr := fr.newb h2
  have nn := h2.blk
  rw [zz, bools_rep] at nn
  rw [zz]
  have kaO : Blk w2.heap (B.s + 4) 4 (bools (List.replicate n false)) := nn
  have zz := h2.size.trans (congrArg (· + 1) zz)
  simp only [Nat.add_assoc, Nat.reduceAdd] at zz
  refine TL_e (EV_alloc rfl in37 fun w3 h3 => ?_)
  have kbI := kbI.fr h3.fr (fun h => h)
  have kbL := kbL.fr h3.fr (fun h => h)
  have kaI := kaI.fr h3.fr (fun h => h)
  have kaL := kaL.fr h3.fr (fun h => h)
  have kaO := kaO.fr h3.fr (fun h => h)
  have fr := fr.newb h3
  have nn := h3.blk
  rw [zz] at nn
  rw [zz]
  have kbO : Blk w3.heap (B.s + 5) 37 [.slice none 0 0] := nn
  have zz := h3.size.trans (congrArg (· + 1) zz)
  simp only [Nat.add_assoc, Nat.reduceAdd] at zz
  refine TL_e (EV_store rfl rfl rfl sz37 kbO (by simp) fun w4 h4 => ?_)
  have kbI := kbI.fr h4.fr (by omega)
  have kbL := kbL.fr h4.fr (by omega)
  have kaI := kaI.fr h4.fr (by omega)
  have kaL := kaL.fr h4.fr (by omega)
  have kaO := kaO.fr h4.fr (by omega)
  have fr := fr.upd h4 (by omega)
  have kbO : Blk w4.heap (B.s + 5) 37 [.slice (some ⟨B.s + 4, 0, none⟩) n n] := h4.blk
  have zz := h4.size.trans zz
  refine TL_nil ?_
  refine W_seq (by kernel_rfl) ?_
  -- R4
  refine W_reg (l := [⟨some 8, Op.alloc 27, 0, none⟩]) (by kernel_rfl) (by kernel_rfl) ?_
  refine TL_e (EV_alloc rfl in27 fun w5 h5 => ?_)
  have kbI := kbI.fr h5.fr (fun h => h)
  have kbL := kbL.fr h5.fr (fun h => h)
  have kaI := kaI.fr h5.fr (fun h => h)
  have kaL := kaL.fr h5.fr (fun h => h)
  have kaO := kaO.fr h5.fr (fun h => h)
  have kbO := kbO.fr h5.fr (fun h => h)
  have fr := fr.newb h5
  have nn := h5.blk
  rw [zz] at nn
  rw [zz]
  have kbS : Blk w5.heap (B.s + 6) 27 [.slice none 0 0] := nn
  have zz := h5.size.trans (congrArg (· + 1) zz)
  simp only [Nat.add_assoc, Nat.reduceAdd] at zz
  refine TL_nil ?_
  refine W_seq (by kernel_rfl) ?_
  -- R5
  refine W_reg (l := [⟨some 32, Op.move (Operand.tmp 4), 3, none⟩, ⟨some 33, Op.makeSlice 27 (Operand.const (Value.int IntKind.i64 0)) (Operand.tmp 32), 27, none⟩, ⟨some 2, Op.assign (Operand.tmp 33), 27, none⟩]) (by kernel_rfl) (by kernel_rfl) ?_
  refine TL_q rfl (QV_move rfl) ?_
  refine TL_e (EV_make1 (l := 0) rfl rfl rfl el27 in3 rfl (by omega) (by omega) (by omega) fun w6 h6 => ?_)
  have kbI := kbI.fr h6.fr (fun h => h)
  have kbL := kbL.fr h6.fr (fun h => h)
  have kaI := kaI.fr h6.fr (fun h => h)
  have kaL := kaL.fr h6.fr (fun h => h)
  have kaO := kaO.fr h6.fr (fun h => h)
  have kbO := kbO.fr h6.fr (fun h => h)
  have kbS := kbS.fr h6.fr (fun h => h)
  have fr := fr.newb h6
  have nn := h6.blk
  rw [zz, nats_rep] at nn
  rw [zz]
  have kA : Blk w6.heap (B.s + 7) 3 (nats (List.replicate n 0)) := nn
  have zz := h6.size.trans (congrArg (· + 1) zz)
  simp only [Nat.add_assoc, Nat.reduceAdd] at zz
  refine TL_q rfl (QV_assign rfl) ?_
  refine TL_nil ?_
  refine W_seq (by kernel_rfl) ?_
  -- R6
  refine W_reg (l := [⟨some 9, Op.alloc 66, 0, none⟩]) (by kernel_rfl) (by kernel_rfl) ?_
  refine TL_e (EV_alloc rfl in66 fun w7 h7 => ?_)
  have kbI := kbI.fr h7.fr (fun h => h)
  have kbL := kbL.fr h7.fr (fun h => h)
  have kaI := kaI.fr h7.fr (fun h => h)
  have kaL := kaL.fr h7.fr (fun h => h)
  have kaO := kaO.fr h7.fr (fun h => h)
  have kbO := kbO.fr h7.fr (fun h => h)
  have kbS := kbS.fr h7.fr (fun h => h)
  have kA := kA.fr h7.fr (fun h => h)
  have fr := fr.newb h7
  have nn := h7.blk
  rw [zz] at nn
  rw [zz]
  have kbC : Blk w7.heap (B.s + 8) 66 [.slice none 0 0] := nn
  have zz := h7.size.trans (congrArg (· + 1) zz)
  simp only [Nat.add_assoc, Nat.reduceAdd] at zz
  refine TL_nil ?_
  refine W_seq (by kernel_rfl) ?_
  -- R7
  refine W_reg (l := [⟨some 10, Op.alloc 3, 0, none⟩, ⟨none, Op.store 3 (Operand.tmp 10) (Operand.const (Value.int IntKind.i64 0)), 0, none⟩]) (by kernel_rfl) (by kernel_rfl) ?_
  refine TL_e (EV_alloc rfl in3 fun w8 h8 => ?_)
  have kbI := kbI.fr h8.fr (fun h => h)
  have kbL := kbL.fr h8.fr (fun h => h)
  have kaI := kaI.fr h8.fr (fun h => h)
  have kaL := kaL.fr h8.fr (fun h => h)
  have kaO := kaO.fr h8.fr (fun h => h)
  have kbO := kbO.fr h8.fr (fun h => h)
  have kbS := kbS.fr h8.fr (fun h => h)
  have kA := kA.fr h8.fr (fun h => h)
  have kbC := kbC.fr h8.fr (fun h => h)
  have fr := fr.newb h8
  have nn := h8.blk
  rw [zz] at nn
  rw [zz]
  have kbV : Blk w8.heap (B.s + 9) 3 [.int .i64 0] := nn
  have zz := h8.size.trans (congrArg (· + 1) zz)
  simp only [Nat.add_assoc, Nat.reduceAdd] at zz
  refine TL_e (EV_store rfl rfl rfl sz3 kbV (by simp) fun w9 h9 => ?_)
  have kbI := kbI.fr h9.fr (by omega)
  have kbL := kbL.fr h9.fr (by omega)
  have kaI := kaI.fr h9.fr (by omega)
  have kaL := kaL.fr h9.fr (by omega)
  have kaO := kaO.fr h9.fr (by omega)
  have kbO := kbO.fr h9.fr (by omega)
  have kbS := kbS.fr h9.fr (by omega)
  have kA := kA.fr h9.fr (by omega)
  have kbC := kbC.fr h9.fr (by omega)
  have fr := fr.upd h9 (by omega)
  have kbV : Blk w9.heap (B.s + 9) 3 [.int .i64 ((0 : Nat) : Int)] := h9.blk
  have zz := h9.size.trans zz
  have f9 : Fr (fun g => B.s ≤ g) w w9 := fr.mono (fun _ _ h => h.elim)
  have vA0 : Vec w9.heap (fun g => if g = B.s + 7 then 3 else 0) B.s 3 3 1 (.slice (some ⟨B.s + 7, 0, none⟩) 0 n) 0 (nats []) := by
    refine ⟨?_, fun g hg => ?_⟩
    · have := Row.of_blk (sz := 1) (n := 0) (c := n) kA (Nat.zero_le _) (by unfold maxLen; omega) (by simp [nats_len])
      simpa [nats] using this
    · have : g = B.s + 7 := by cases hg; rfl
      subst this
      exact ⟨if_pos rfl, .inr rfl⟩
  have m0 : TMem w9.heap (fun g => if g = B.s + 7 then 3 else 0) B n (ts0 n) nilS nilS (.slice (some ⟨B.s + 7, 0, none⟩) 0 n) nilS :=
    ⟨kbI, kbL, kbO, kbS, kbC, kbV, kaI, kaL, kaO, ⟨Row.nil _ _ _, fun g hg => (by cases hg)⟩, ⟨Row.nil _ _ _, fun g hg => (by cases hg)⟩, vA0, ⟨Row.nil _ _ _, fun g hg => (by cases hg)⟩, by simp [ts0], by simp [ts0], by simp [ts0]⟩
  refine TL_nil ?_
  refine W_seq (by kernel_rfl) ?_
  -- R8
  refine W_reg (l := [⟨some 34, Op.makeFunc (Fn.func 41) #[] #[Operand.tmp 10, Operand.tmp 5, Operand.tmp 6, Operand.tmp 8, Operand.tmp 7, Operand.tmp 9], 69, none⟩, ⟨some 11, Op.assign (Operand.tmp 34), 69, none⟩]) (by kernel_rfl) (by kernel_rfl) ?_
  refine TL_q rfl (QV_func rfl) ?_
  refine TL_q rfl (QV_assign rfl) ?_
  refine TL_nil ?_
  refine W_seq (by kernel_rfl) ?_
  refine W_seq (by kernel_rfl) ?_
  -- R9
  refine W_reg (l := [⟨some 35, Op.move (Operand.tmp 4), 3, none⟩, ⟨some 36, Op.move (Operand.const (Value.int IntKind.i64 0)), 3, none⟩]) (by kernel_rfl) (by kernel_rfl) ?_
  refine TL_q rfl (QV_move rfl) ?_
  refine TL_q rfl (QV_move rfl) ?_
  refine TL_nil ?_
  refine W_block 0 (by kernel_rfl) ?_
  refine W_loop (ι := Nat × TJ × (Nat → Nat) × Value × Value × Value × Value) (fun i w1 => i.1 ≤ n ∧ PI i.2.1 ∧ i.2.1.calls = [] ∧ (∀ v, v < i.1 → i.2.1.index.getD v 0 ≠ 0) ∧ TMem w1.heap i.2.2.1 B n i.2.1 i.2.2.2.1 i.2.2.2.2.1 i.2.2.2.2.2.1 i.2.2.2.2.2.2 ∧ Fr (fun g => B.s ≤ g) w w1) (fun i => tenv (L.s + 9) n B i.2.2.2.2.2.1 i.2.2.2.2.2.2 i.1) (fun i => n - i.1) (0, ts0 n, (fun g => if g = B.s + 7 then 3 else 0), nilS, nilS, .slice (some ⟨B.s + 7, 0, none⟩) 0 n, nilS) (by kernel_rfl) ?_ ?_ ?_
  · exact ⟨Nat.zero_le _, h0, rfl, fun v hv => absurd hv (Nat.not_lt_zero _), m0, f9⟩
  · exact ⟨rfl, rfl, rfl, rfl, rfl, rfl, rfl, rfl, rfl, rfl, rfl, trivial⟩
  rintro ⟨k, t, own, sv, cv, av, ev⟩ w1 ⟨hk, hp, hcalls, hidx, m, f1⟩
  dsimp only at hk hp hcalls hidx m ⊢
  refine W_seq (by kernel_rfl) ?_
  -- R10
  refine W_reg (l := [⟨some 37, Op.binOp BinOp.lss 3 (Operand.tmp 36) (Operand.tmp 35) 3, 4, none⟩]) (by kernel_rfl) (by kernel_rfl) ?_
  refine TL_q rfl (QV_lss rfl rfl) ?_
  refine TL_nil ?_
  refine W_seq (by kernel_rfl) ?_
  refine W_cond (c := Operand.tmp 37) (by kernel_rfl) rfl (fun hc37 => ?_) (fun hc37 => ?_)
  ·
    have hkn : k < n := by have := of_decide_eq_true hc37; omega
    refine W_skip (by kernel_rfl) ?_
    refine W_seq (by kernel_rfl) ?_
    refine W_block 1 (by kernel_rfl) ?_
    refine W_seq (by kernel_rfl) ?_
    -- R11
    refine W_reg (l := [⟨some 38, Op.move (Operand.tmp 36), 3, none⟩, ⟨some 12, Op.assign (Operand.tmp 38), 3, none⟩]) (by kernel_rfl) (by kernel_rfl) ?_
    refine TL_q rfl (QV_move rfl) ?_
    refine TL_q rfl (QV_assign rfl) ?_
    refine TL_nil ?_
    refine W_seq (by kernel_rfl) ?_
    refine W_seq (by kernel_rfl) ?_
    -- R12
    refine W_reg (l := [⟨some 39, Op.load 27 (Operand.tmp 5), 27, none⟩, ⟨some 40, Op.move (Operand.tmp 12), 3, none⟩, ⟨some 41, Op.indexAddr 27 (Operand.tmp 39) (Operand.tmp 40), 0, none⟩, ⟨some 42, Op.load 3 (Operand.tmp 41), 3, none⟩, ⟨some 43, Op.binOp BinOp.neq 3 (Operand.tmp 42) (Operand.const (Value.int IntKind.i64 0)) 3, 4, none⟩]) (by kernel_rfl) (by kernel_rfl) ?_
    refine TL_q rfl (QV_load rfl one27 (m.cI)) ?_
    refine TL_q rfl (QV_move rfl) ?_
    refine TL_q rfl (QV_idx1 rfl rfl el27 sz3 (hkn)) ?_
    refine TL_q rfl (QV_load rfl one3 (m.gI hkn)) ?_
    refine TL_q rfl (QV_neq rfl rfl) ?_
    refine TL_nil ?_
    refine W_cond (c := Operand.tmp 43) (by kernel_rfl) rfl (fun hc43 => ?_) (fun hc43 => ?_)
    ·
      have hik : t.index.getD k 0 ≠ 0 := by have := of_decide_eq_true hc43; omega
      have mR := m
      have fR := f1
      have hiR := all_succ hidx hik
      refine W_exit 1 (by kernel_rfl) ?_
      show T Try.prog 243 (C Try.f36 [1, 1, 1, 0, 0, 1, 0, 1, 1, 1, 1, 1, 1, 1, 1, 1]) _ _ _
      -- R41
      refine W_reg (l := [⟨some 240, Op.binOp BinOp.add 3 (Operand.tmp 36) (Operand.const (Value.int IntKind.i64 1)) 3, 3, none⟩, ⟨some 36, Op.move (Operand.tmp 240), 3, none⟩]) (by kernel_rfl) (by kernel_rfl) ?_
      refine TL_q rfl (QV_add (r := ((k + 1 : Nat) : Int)) rfl rfl (by omega) (by omega) (by omega)) ?_
      refine TL_q rfl (QV_move rfl) ?_
      refine TL_nil ?_
      first
      | exact ⟨(k + 1, t2, own2, sv2, _, av2, ev2), ⟨by omega, hp2, hc2, hidx2, m2, f2⟩, ⟨rfl, rfl, rfl, rfl, rfl, rfl, rfl, rfl, rfl, rfl, rfl, trivial⟩, by show n - (k + 1) < n - k; omega⟩
      | exact ⟨(k + 1, t, own, sv, cv, av, ev), ⟨by omega, hp, hcalls, hiR, m, f1⟩, ⟨rfl, rfl, rfl, rfl, rfl, rfl, rfl, rfl, rfl, rfl, rfl, trivial⟩, by show n - (k + 1) < n - k; omega⟩
    ·
      have hik : t.index.getD k 0 = 0 := by have := of_decide_eq_false hc43; omega
      have hsf := hsafe t hp
      have hsf1 := hsf.nv
      have hsf2 := hsf.ns
      have hsf3 := hsf.nc
      refine W_skip (by kernel_rfl) ?_
      refine W_seq (by kernel_rfl) ?_
      -- R13
      refine W_reg (l := [⟨some 44, Op.move (Operand.tmp 11), 69, none⟩, ⟨some 45, Op.move (Operand.tmp 12), 3, none⟩, ⟨some 46, Op.call { callee := Callee.value (Operand.tmp 44), args := #[Operand.tmp 45], argTypes := #[3] }, 0, none⟩]) (by kernel_rfl) (by kernel_rfl) ?_
      refine TL_q rfl (QV_move rfl) ?_
      refine TL_q rfl (QV_move rfl) ?_
      refine TL_e (EV_callC rfl rfl rfl call41 (by simp) (visitWalk w1 own B hB n t sv cv av ev m k hkn (by omega) (by omega) (by omega)) fun r w2 hr => ?_)
      obtain ⟨rfl, fv, own1, sv1, cv1, m1⟩ := hr
      have hidx1 : ∀ v, v < k + 1 → (t.visit k).index.getD v 0 ≠ 0 := all_succ (fun v hv => visit_mono t k v (hidx v hv)) (visit_self t k (by rw [m.nI]; exact hkn))
      refine TL_nil ?_
      refine W_block 2 (by kernel_rfl) ?_
      refine W_loop (ι := TJ × (Nat → Nat) × Value × Value × Value × Value) (fun i w1 => PI i.1 ∧ (∀ v, v < k + 1 → i.1.index.getD v 0 ≠ 0) ∧ TMem w1.heap i.2.1 B n i.1 i.2.2.1 i.2.2.2.1 i.2.2.2.2.1 i.2.2.2.2.2 ∧ Fr (fun g => B.s ≤ g) w w1) (fun i => tenv (L.s + 9) n B i.2.2.2.2.1 i.2.2.2.2.2 k) (fun i => μ i.1) (t.visit k, own1, sv1, cv1, av, ev) (by kernel_rfl) ?_ ?_ ?_
      · exact ⟨hvis t k hp hcalls hkn hik, hidx1, m1, f1.trans fv⟩
      · exact ⟨rfl, rfl, rfl, rfl, rfl, rfl, rfl, rfl, rfl, rfl, rfl, trivial⟩
      rintro ⟨t2, own2, sv2, cv2, av2, ev2⟩ w2 ⟨hp2, hidx2, m2, f2⟩
      dsimp only at hp2 hidx2 m2 ⊢
      obtain ⟨ca, cc, rfl, -⟩ := m2.vC.row.form
      have f2' : Fr (fun g => B.s ≤ g) w w2 := f2
      refine W_seq (by kernel_rfl) ?_
      refine W_seq (by kernel_rfl) ?_
      -- R14
      refine W_reg (l := [⟨some 47, Op.load 66 (Operand.tmp 9), 66, none⟩, ⟨some 48, Op.call { callee := Callee.builtin Builtin.len, args := #[Operand.tmp 47], argTypes := #[66] }, 3, none⟩, ⟨some 49, Op.binOp BinOp.gtr 3 (Operand.tmp 48) (Operand.const (Value.int IntKind.i64 0)) 3, 4, none⟩]) (by kernel_rfl) (by kernel_rfl) ?_
      refine TL_q rfl (QV_load rfl one66 (m2.cC)) ?_
      refine TL_q rfl (QV_len rfl el66) ?_
      refine TL_q rfl (QV_gtr rfl rfl) ?_
      refine TL_nil ?_
      refine W_cond (c := Operand.tmp 49) (by kernel_rfl) rfl (fun hc49 => ?_) (fun hc49 => ?_)
      ·
        have hpos : 0 < t2.calls.length := by have := of_decide_eq_true hc49; omega
        cases hc2 : t2.calls with
        | nil => rw [hc2] at hpos; simp at hpos
        | cons fm rest =>
        rw [← hc2]
        refine W_skip (by kernel_rfl) ?_
        refine T.env (roundWalk w2 own2 B hB n hn D hok hl t2 sv2 _ av2 ev2 m2 (hsafe t2 hp2) fm rest hc2 (L.s + 9) (L.s + 8) L.s bb k (cel_fr hs0 f2' (by omega)) (by rw [← hbb]; exact cel_fr hs1 f2' (by omega)) (cel_fr hst.r1 f2' (by omega)) (fun b => b ≤ L.s) ?_ (fun r hr => (hst.fr f2' (by omega)).rule hr) _ ?_) ⟨rfl, rfl, rfl, rfl, rfl, rfl, rfl, rfl, rfl, rfl, rfl, trivial⟩
        · intro a ha
          obtain ⟨ra, rc, e1, e2, e3⟩ := hrow a ha
          refine ⟨ra, rc, cel_fr e1 f2' (by have := cel_lt e1; omega), e2, fun hpos => ?_⟩
          obtain ⟨b', o, e4, e5, e6⟩ := e3 hpos
          exact ⟨b', o, e4, by omega, fun j hj => cel_fr (e6 j hj) f2' (by omega)⟩
        · intro E' w' own' sv' cv' av' ev' hsub hm hf
          have hne : t2.calls ≠ [] := by rw [hc2]; simp
          exact ⟨(tstep D n t2, own', sv', cv', av', ev'), ⟨(hstep t2 hp2 hne).1, fun v hv => tstep_mono D n t2 v (hidx2 v hv), hm, f2.trans hf⟩, hsub, (hstep t2 hp2 hne).2⟩
      ·
        have hc2 : t2.calls = [] := by have := of_decide_eq_false hc49; cases hcc : t2.calls with | nil => rfl | cons c r => rw [hcc] at this; simp at this
        have mR := m2
        have fR := f2
        have hiR := hidx2
        have hpR := hp2
        refine W_exit 2 (by kernel_rfl) ?_
        show T Try.prog 243 (C Try.f36 [1, 1, 1, 0, 0, 1, 0, 1, 1, 1, 1, 1, 1, 1, 1, 1]) _ _ _
        -- R41
        refine W_reg (l := [⟨some 240, Op.binOp BinOp.add 3 (Operand.tmp 36) (Operand.const (Value.int IntKind.i64 1)) 3, 3, none⟩, ⟨some 36, Op.move (Operand.tmp 240), 3, none⟩]) (by kernel_rfl) (by kernel_rfl) ?_
        refine TL_q rfl (QV_add (r := ((k + 1 : Nat) : Int)) rfl rfl (by omega) (by omega) (by omega)) ?_
        refine TL_q rfl (QV_move rfl) ?_
        refine TL_nil ?_
        first
        | exact ⟨(k + 1, t2, own2, sv2, _, av2, ev2), ⟨by omega, hp2, hc2, hidx2, m2, f2⟩, ⟨rfl, rfl, rfl, rfl, rfl, rfl, rfl, rfl, rfl, rfl, rfl, trivial⟩, by show n - (k + 1) < n - k; omega⟩
        | exact ⟨(k + 1, t, own, sv, cv, av, ev), ⟨by omega, hp, hcalls, hiR, m, f1⟩, ⟨rfl, rfl, rfl, rfl, rfl, rfl, rfl, rfl, rfl, rfl, rfl, trivial⟩, by show n - (k + 1) < n - k; omega⟩
  ·
    have hkn : k = n := by have := of_decide_eq_false hc37; omega
    subst hkn
    refine W_exit 0 (by kernel_rfl) ?_
    show T Try.prog 243 (C Try.f36 [1, 1, 1, 1, 1, 1, 1, 1, 1, 1]) _ _ _
    refine W_seq (by kernel_rfl) ?_
    -- R42
    refine W_reg (l := [⟨some 241, Op.move (Operand.tmp 2), 27, none⟩, ⟨some 242, Op.move (Operand.tmp 3), 27, none⟩, ⟨some 2, Op.assign (Operand.tmp 241), 27, none⟩, ⟨some 3, Op.assign (Operand.tmp 242), 27, none⟩]) (by kernel_rfl) (by kernel_rfl) ?_
    refine TL_q rfl (QV_move rfl) ?_
    refine TL_q rfl (QV_move rfl) ?_
    refine TL_q rfl (QV_assign rfl) ?_
    refine TL_q rfl (QV_assign rfl) ?_
    refine TL_nil ?_
    refine W_ret (by kernel_rfl) ?_
    exact ⟨_, rfl, t, av, ev, hp, hcalls, hidx, rfl, f1.mono (fun g hg h => by omega), m.vA.row, m.vE.row, fun g hg => by have := (m.vA.own g hg).2; omega, fun g hg => by have := (m.vE.own g hg).2; omega⟩

end Go.Proofs.Qxb6600121a
