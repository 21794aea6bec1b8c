/-
  THE PLAIN LAW OF SETTLING AGAIN (7).
-/
import Derived.Test.Qxb6600121aLaw6b
namespace Go.Proofs.Qxb6600121a
open Go
section
variable {D : List Rl} {n j k K : Nat} {T U : Nat → Prop} {S S' : SS} {atoms ends : List Nat} {A : List Nat}
theorem Krn.alive (h : Krn D n k A T U S []) (hq : S.queue = []) {r : Nat} (hr : CR D A r) (hc : S.closed.getD r false = false) : dead D S r = false := by
  cases hd : dead D S r with
  | false => rfl
  | true =>
    rcases dead_true hd with h1 | ⟨a, ha, he⟩ | ⟨a, ha, he⟩
    · exact absurd h1 (h.Z1 r hr hc)
    · rcases h.Z2 r hr hc a ha he with h2 | h2
      · rw [hq] at h2; cases h2
      · cases h2
    · rcases h.Z3 r hr hc a ha he with h2 | h2
      · rw [hq] at h2; cases h2
      · cases h2
theorem Krn.shut (h : Krn D n k A T U S []) {r : Nat} (hr : CR D A r) (hd : dead D S r = false) : S.closed.getD r false = false := by
  cases hc : S.closed.getD r false with
  | false => rfl
  | true =>
    obtain ⟨h1, h2, h3⟩ := dead_false hd
    rcases h.C r hr hc with h4 | ⟨a, ha, he⟩ | ⟨a, ha, he⟩
    · exact absurd h4 h1
    · exact absurd he (h2 a ha)
    · exact absurd he (h3 a ha)
/-- A rule of it that would fire: its head is decided. -/
theorem Krn.fired (h : Krn D n k A T U S []) (hq : S.queue = []) {r : Nat} (hr : CR D A r) (hd : dead D S r = false) (hw : waits D S r = 0) : S.val.getD (D.getD r rl0).head 0 ≠ 1 := by
  have hc := h.shut hr hd
  refine h.K1 r hr trivial hc ?_
  rw [h.W r hr hc, hw, hq]
  rfl
theorem pvl_same (a : Nat) (F : SS) (l : List Nat) (h : ∀ r ∈ l, F.closed.getD r false = false → F.wait.getD r 0 = 0 → F.val.getD a 0 ≠ 1) : l.foldl (pvF a) F = F := by
  induction l with
  | nil => rfl
  | cons r l ih =>
    rw [List.foldl_cons]
    have e : pvF a F r = F := by
      unfold pvF
      split
      · rename_i hc
        unfold decideF
        rw [if_neg (h r (List.mem_cons_self ..) hc.1 hc.2)]
      · rfl
    rw [e]
    exact ih (fun x hx => h x (List.mem_cons_of_mem _ hx))
theorem st3_same (D : List Rl) (n : Nat) (F : SS) (A : List Nat) (h : ∀ a ∈ A, ∀ r ∈ (idxH D n D.length).getD a [], F.closed.getD r false = false → F.wait.getD r 0 = 0 → F.val.getD a 0 ≠ 1) : st3 D n A F = F := by
  unfold st3
  induction A with
  | nil => rfl
  | cons a A ih =>
    rw [List.foldl_cons]
    have e : pvA D n F a = F := pvl_same a F _ (h a (List.mem_cons_self ..))
    rw [e]
    exact ih (fun x hx => h x (List.mem_cons_of_mem _ hx))
/-- Settling a settled component begins with no turn. -/
theorem again_start (hok : Okay n D) (hA : ∀ x ∈ A, x < n) (h : Fixed D n k A T U S) (hq : S.queue = []) :
    (st3 D n A (st2 D n A (st1 k A S))).val = S.val ∧ (st3 D n A (st2 D n A (st1 k A S))).queue = [] ∧ Ranked D A (st3 D n A (st2 D n A (st1 k A S))) := by
  have hl := h.core.len
  have hi := ini_fold k A S
  have hb := bgA_fold D n hok A (st1 k A S) (by show (A.foldl (iniF k) S).closed.length = _; rw [hi.closed]; exact hl.nclosed) (by show (A.foldl (iniF k) S).wait.length = _; rw [hi.wait]; exact hl.nwait) (by show (A.foldl (iniF k) S).opn.length = _; rw [hi.opn]; exact hl.nopn) hA
  have hv1 : (st1 k A S).val = S.val := hi.val
  have hd : ∀ r, dead D (st1 k A S) r = dead D S r := dead_val D hv1
  have hw : ∀ r, waits D (st1 k A S) r = waits D S r := waits_val D hv1
  have hv : (st2 D n A (st1 k A S)).val = S.val := hb.al.val.trans hv1
  have hs : st3 D n A (st2 D n A (st1 k A S)) = st2 D n A (st1 k A S) := by
    refine st3_same D n _ A (fun a ha r hr hc hw0 => ?_)
    obtain ⟨h1, h2⟩ := (mem_idxH D n D.length (Nat.le_refl _) hok a r).1 hr
    have hcr : CR D A r := ⟨h1, by rw [h2]; exact ha⟩
    rw [hb.cl r h1, if_pos hcr.2, hd] at hc
    rw [hb.wt r h1 hcr.2 (by rw [hd]; exact hc), hw] at hw0
    rw [hv, ← h2]
    exact h.core.fired hq hcr hc (by omega)
  rw [hs]
  refine ⟨hv, by rw [hb.al.queue]; show (A.foldl (iniF k) S).queue = []; rw [hi.queue]; exact hq, ?_⟩
  obtain ⟨ρ, hsrc⟩ := h.src
  refine ⟨ρ, fun a ha hav => ?_⟩
  rw [hv] at hav
  obtain ⟨r, h1, h2, h3, h4, h5⟩ := hsrc a ha hav
  have hcr : CR D A r := ⟨h2, by rw [h3]; exact ha⟩
  refine ⟨r, h2, h3, ?_, fun b hb' hbA hbv => ?_⟩
  · rw [hb.cl r h2, if_pos hcr.2, hd]
    exact h.core.alive hq hcr h4
  · rw [hv] at hbv
    exact (h5 b hb' hbA hbv).2
theorem RKx.pre2 (h : RKx D n T U atoms ends ends.length K S) (hp : Part n atoms ends) : SPre D n k (sg atoms ends k) T U (S.looked + 65537000000) S := by
  refine ⟨h.len, h.queue, h.v3, h.wb, h.ob, h.nb, h.s2, h.s0, h.supp, fun x hx hxA e => ?_, h.lk0, Int.le_refl _⟩
  obtain ⟨i, hi, hie⟩ := hp.at hx
  obtain ⟨j, hj, h1, h2⟩ := hp.seg hi
  have hxj : x ∈ sg atoms ends j := by rw [← hie]; exact sg_mem h1 h2 (by rw [hp.len]; exact (hp.inc j hj).2)
  have h3 := ((h.fixed j hj hj).core.prt x hx).2 hxj
  have hjk : j ≠ k := fun e2 => hxA (e2 ▸ hxj)
  rw [h3] at e
  exact hjk (Int.ofNat_inj.1 e)
theorem RKx.next2 (hok : Okay n D) (hp : Part n atoms ends) (h : RKx D n T U atoms ends ends.length K S) (hk : k < ends.length) (g : Good D n k (sg atoms ends k) T U S (S.looked + 65537000000) S') (hv : S'.val = S.val) : RKx D n T U atoms ends ends.length (K + 1) S' := by
  have hsn : ∀ j x, x ∈ sg atoms ends j → x < n := fun j x hx => hp.mem_lt (List.mem_of_mem_take (sg_take hx))
  refine ⟨g.core.len, g.queue, g.lost, g.core.v3, g.core.wb, g.core.ob, g.core.nb, g.core.s2, g.core.s0, g.core.supp, g.lk0, ?_, ?_, ?_⟩
  · have h1 := g.lk
    have h2 := h.lk
    omega
  · intro j hj hjl
    by_cases hjk : j = k
    · subst hjk; exact ⟨g.core, g.src⟩
    · exact (h.fixed j hj hjl).frame hok h.queue g.core g.queue g.frm (fun x hx hxk => hjk (sg_disj hp hjl hk hx hxk)) hjk (hsn j) (fun r hr x hx => by rw [hv])
  · intro x hx hr
    rw [g.frm.p x hx (hr k hk hk)]
    exact h.rest x hx hr
/-- SETTLING AGAIN, for its walk. -/
def stl2 (tu : TU D n T U) (hok : Okay n D) (hl : D.length + tot (D.map Rl.rd) ≤ 1048576) (hn : n ≤ 65536) (hp : Part n atoms ends) (h : RKx D n T U atoms ends ends.length K S) (hK : K ≤ 1000000) (hk : k < ends.length) :
    Stl D n k (sg atoms ends k) S (fun S' => RKx D n T U atoms ends ends.length (K + 1) S' ∧ S'.val = S.val) where
  PE := fun S' evs => PEx D n k (sg atoms ends k) T U S (S.looked + 65537000000) S' evs ∧ S'.val = S.val ∧ S'.queue = [] ∧ evs = [] ∧ Ranked D (sg atoms ends k) S'
  hbnd := fun S' evs e => e.1.bnd hn
  hpop := fun S' a q e hq => by rw [e.2.2.1] at hq; cases q <;> cases hq
  hmeet := fun S' r m evs e => by cases e.2.2.2.1
  h0 := by
    have hA : ∀ x ∈ sg atoms ends k, x < n := fun x hx => hp.mem_lt (List.mem_of_mem_take (sg_take hx))
    obtain ⟨h1, h2, h3⟩ := again_start hok hA (h.fixed k hk hk) h.queue
    exact ⟨(h.pre2 hp).pex tu hok hl hn hA (by have h4 := sg_len hp hk; have h5 := hp.inc k hk; omega), h1, h2, rfl, h3⟩
  srch := fun B e hq =>
    let X := srchOf tu hok hl hn (fun x hx => hp.mem_lt (List.mem_of_mem_take (sg_take hx))) (by have := h.lk; omega) e.1 hq
    { QA := X.QA, QB := X.QB, QC := X.QC, QD := X.QD, h0 := X.h0, hAn := X.hAn, hA1 := X.hA1, hA2 := X.hA2, hA3 := X.hA3, tAB := X.tAB, hBn := X.hBn, hB1 := X.hB1, hB2 := X.hB2, hB3 := X.hB3, hB4 := X.hB4, tBC := X.tBC, hCn := X.hCn, hC0 := X.hC0, hC1 := X.hC1, hC2 := X.hC2, tCD := X.tCD, hDn := X.hDn, hD1 := X.hD1, hD2 := X.hD2,
      tD := fun S' b hd => by
        have h1 := X.tD S' b hd
        cases b with
        | true => exact absurd (h1.2.2 e.2.2.2.2) (by decide)
        | false =>
          have h2 := h1.2.1 rfl
          have hv := h2.val.trans e.2.1
          exact ⟨h.next2 hok hp hk ⟨h2.core, h2.queue, h2.lost, h2.src, h2.frm, h2.lk0, h2.lk, h2.mq⟩ hv, hv⟩ }
end
end Go.Proofs.Qxb6600121a
