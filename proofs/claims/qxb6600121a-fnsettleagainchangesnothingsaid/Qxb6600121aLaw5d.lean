/-
  THE PLAIN LAW OF SETTLING (5d): a component settled.
-/
import Derived.Test.Qxb6600121aLaw5c
namespace Go.Proofs.Qxb6600121a
open Go
section
variable {D : List Rl} {n k : Nat} {A : List Nat} {T U : Nat → Prop} {S B S0 : SS} {LB : Int} {P : Nat → Prop}
theorem und_le (vs : List Int) : und vs ≤ vs.length := by
  induction vs with
  | nil => exact Nat.le_refl _
  | cons v vs ih => rw [und, List.length_cons]; split <;> omega
theorem SPre.pex (tu : TU D n T U) (hok : Okay n D) (hl : D.length + tot (D.map Rl.rd) ≤ 1048576) (hn : n ≤ 65536) (hA : ∀ x ∈ A, x < n) (hAl : A.length ≤ n) (h : SPre D n k A T U LB S) : PEx D n k A T U S LB (st3 D n A (st2 D n A (st1 k A S))) [] := by
  have hi := ini_fold k A S
  have hb := bgA_fold D n hok A (st1 k A S) (by show (A.foldl (iniF k) S).closed.length = _; rw [hi.closed]; exact h.len.nclosed) (by show (A.foldl (iniF k) S).wait.length = _; rw [hi.wait]; exact h.len.nwait) (by show (A.foldl (iniF k) S).opn.length = _; rw [hi.opn]; exact h.len.nopn) hA
  have hc2 := h.core2 hok hl hA
  have hmq2 : muq (st3 D n A (st2 D n A (st1 k A S))) = muq S := by
    have e : muq (st3 D n A (st2 D n A (st1 k A S))) = muq (st2 D n A (st1 k A S)) :=
      foldl_inv A (pvA D n) (fun F => muq F = muq (st2 D n A (st1 k A S))) (fun F a e => foldl_inv _ (pvF a) (fun F => muq F = muq (st2 D n A (st1 k A S))) (fun F r e => by rw [muq_pv]; exact e) F e) _ rfl
    rw [e, muq_st2, muq_st1]
  obtain ⟨h3, hd⟩ := CoreP.pvA tu hok hA A (fun x hx => hx) _ _ hc2
  have hmS : muq S ≤ n := by
    unfold muq
    rw [h.queue]
    have := und_le S.val
    rw [h.len.nval] at this
    exact this
  obtain ⟨F2, hF2⟩ : ∃ F, F = st2 D n A (st1 k A S) := ⟨_, rfl⟩
  rw [← hF2] at hb h3 hd hmq2 hc2 ⊢
  obtain ⟨F, hF⟩ : ∃ F, F = st3 D n A F2 := ⟨_, rfl⟩
  rw [← hF] at h3 hd hmq2 ⊢
  have hcore : Krn D n k A T U F [] := h3.grow (fun r hr _ => h3.K1 r hr (.inr hr.2))
  have hsrc : ∀ x, F.source.getD x 0 = (A.foldl (iniF k) S).source.getD x 0 := fun x => by rw [hd.source, hb.al.source]; rfl
  have hlost : F.lost = A := by rw [hd.lost, hb.al.lost]; rfl
  have hlook : F.looked = S.looked := by rw [hd.looked, hb.al.looked]; exact hi.looked
  have hv2 : F2.val = S.val := hb.al.val.trans hi.val
  have huF : und F.val ≤ n := by
    have := hmq2
    unfold muq at this hmS
    omega
  refine ⟨hcore, ?_, ?_, ?_, ?_, ?_, by rw [hmq2]; exact hmS, ?_⟩
  · refine ⟨fun _ => 0, fun a ha _ => .inl ⟨?_, by rw [hlost]; exact ha⟩⟩
    rw [hsrc, hi.s1 a ha (by rw [h.len.nsource]; exact hA a ha)]
    decide
  · intro x hx; rw [hlost] at hx; exact hx
  · have := cS_le F.source
    rw [hcore.len.nsource] at this
    rw [hlost]
    omega
  · rw [hlook]; exact h.lk0
  · rw [hlook]
    have := h.lk
    omega
  · refine ⟨fun x hx hxA => ?_, fun x hx hxA => ?_, fun x hx hxA => ?_, fun x hx hxA => ?_, fun r hr hrA => ?_, fun r hr hrA => ?_⟩
    · rw [hd.v x hxA, hv2]
    · rw [hsrc, hi.s2 x hxA]
    · rw [hd.part, hb.al.part]; exact hi.p2 x hxA
    · rw [hd.opn, hb.op2 x hxA]; show (A.foldl (iniF k) S).opn.getD x 0 = _; rw [hi.opn]
    · rw [hd.closed, hb.cl r hr, if_neg hrA]; show (A.foldl (iniF k) S).closed.getD r false = _; rw [hi.closed]
    · rw [hd.wait, hb.wt2 r hr hrA]; show (A.foldl (iniF k) S).wait.getD r 0 = _; rw [hi.wait]
/-- A component settled. -/
structure Good (D : List Rl) (n k : Nat) (A : List Nat) (T U : Nat → Prop) (S0 : SS) (LB : Int) (S : SS) : Prop where
  core : Krn D n k A T U S []
  queue : S.queue = []
  lost : S.lost = []
  src : ∃ ρ : Nat → Nat, ∀ a ∈ A, S.val.getD a 0 = 1 → ∃ r : Nat, S.source.getD a 0 = (r : Int) ∧ r < D.length ∧ (D.getD r rl0).head = a ∧ S.closed.getD r false = false ∧
    ∀ b ∈ (D.getD r rl0).all, b ∈ A → S.val.getD b 0 = 1 → 0 ≤ S.source.getD b 0 ∧ ρ b < ρ a
  frm : Frm D n A S0 S
  lk0 : 0 ≤ S.looked
  lk : S.looked ≤ LB
  mq : muq S ≤ n
/-- SETTLING, for its walk. -/
def stlOf (tu : TU D n T U) (hok : Okay n D) (hl : D.length + tot (D.map Rl.rd) ≤ 1048576) (hn : n ≤ 65536) (hA : ∀ x ∈ A, x < n) (hAl : A.length ≤ n) (hLB : LB ≤ 1000000000000000000) (h : SPre D n k A T U LB S) (R : SS → Prop) (hR : ∀ S', Good D n k A T U S LB S' → R S') : Stl D n k A S R where
  PE := PEx D n k A T U S LB
  hbnd := fun S evs h => h.bnd hn
  hpop := fun S a q h hq => h.pop hok hA hq
  hmeet := fun S r m evs h => h.meet tu hok hA
  h0 := h.pex tu hok hl hn hA hAl
  srch := fun B hp hq =>
    let X := srchOf tu hok hl hn hA hLB hp hq
    { QA := X.QA, QB := X.QB, QC := X.QC, QD := X.QD, h0 := X.h0, hAn := X.hAn, hA1 := X.hA1, hA2 := X.hA2, hA3 := X.hA3, tAB := X.tAB, hBn := X.hBn, hB1 := X.hB1, hB2 := X.hB2, hB3 := X.hB3, hB4 := X.hB4, tBC := X.tBC, hCn := X.hCn, hC0 := X.hC0, hC1 := X.hC1, hC2 := X.hC2, tCD := X.tCD, hDn := X.hDn, hD1 := X.hD1, hD2 := X.hD2,
      tD := fun S' b hd => by
        have h1 := X.tD S' b hd
        cases b with
        | true => exact h1.1 rfl
        | false =>
          have h2 := h1.2.1 rfl
          exact hR _ ⟨h2.core, h2.queue, h2.lost, h2.src, h2.frm, h2.lk0, h2.lk, h2.mq⟩ }
end
end Go.Proofs.Qxb6600121a
