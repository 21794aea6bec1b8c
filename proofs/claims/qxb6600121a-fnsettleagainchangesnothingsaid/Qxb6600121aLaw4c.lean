/-
  THE PLAIN LAW OF THE SEARCH (4c): the third part's counting down, the fourth part, and the whole.
-/
import Derived.Test.Qxb6600121aLaw4b
namespace Go.Proofs.Qxb6600121a
open Go
section
variable {D : List Rl} {n k : Nat} {A : List Nat} {T U : Nat → Prop} {S B S0 : SS} {i r0 u : Nat} {rs rd us : List Nat} {LB : Int}
theorem QCx.skipU (hok : Okay n D) (hc : Krn D n k A T U B []) (h : QCx D n k A T U B S rd (u :: us))
    (hs : S.part.getD (D.getD u rl0).head 0 ≠ (k : Int) ∨ S.closed.getD u false = true ∨ S.val.getD (D.getD u rl0).head 0 ≠ 1 ∨ 0 ≤ S.source.getD (D.getD u rl0).head 0) : QCx D n k A T U B S rd us := by
  refine ⟨h.sa, h.looked, h.src, fun r hr hcl hv hsr => ?_, h.rdo, fun r hr => h.uso r (List.mem_cons_of_mem _ hr), ?_⟩
  · have hru : r ≠ u := fun e => by
      subst e
      rcases hs with h1 | h1 | h1 | h1
      · exact h1 (by rw [h.sa.same.part]; exact (hc.prt _ (hok _ (getD_mem rl0 hr.1)).1).2 hr.2)
      · rw [hcl] at h1; cases h1
      · exact h1 hv
      · omega
    obtain ⟨h1, h2⟩ := h.need r hr hcl hv hsr
    have e : (u :: us).count r = us.count r := by
      rw [List.count_cons]
      have : (u == r) = false := by simpa using Ne.symm hru
      rw [this]; rfl
    rw [e] at h1
    exact ⟨h1, h2⟩
  · have := h.lb
    simp only [List.length_cons] at this
    omega
theorem QCx.down (hok : Okay n D) (hc : Krn D n k A T U B []) (h : QCx D n k A T U B S rd (u :: us))
    (hs : ¬ (S.part.getD (D.getD u rl0).head 0 ≠ (k : Int) ∨ S.closed.getD u false = true ∨ S.val.getD (D.getD u rl0).head 0 ≠ 1 ∨ 0 ≤ S.source.getD (D.getD u rl0).head 0)) : QCx D n k A T U B (decN S u) (if S.need.getD u 0 - 1 = 0 then rd ++ [u] else rd) us := by
  have hu : u < D.length := h.uso u (List.mem_cons_self ..)
  have hhn := (hok _ (getD_mem rl0 hu)).1
  have hp : S.part.getD (D.getD u rl0).head 0 = (k : Int) := Decidable.byContradiction (fun e => hs (.inl e))
  have hcl : S.closed.getD u false = false := by
    cases hcc : S.closed.getD u false with
    | false => rfl
    | true => exact absurd (.inr (.inl hcc)) hs
  have hv : S.val.getD (D.getD u rl0).head 0 = 1 := Decidable.byContradiction (fun e => hs (.inr (.inr (.inl e))))
  have hsr : S.source.getD (D.getD u rl0).head 0 < 0 := by
    by_cases h1 : S.source.getD (D.getD u rl0).head 0 < 0
    · exact h1
    · exact absurd (.inr (.inr (.inr (by omega)))) hs
  have hcr : CR D A u := ⟨hu, by rw [h.sa.same.part] at hp; exact (hc.prt _ hhn).1 hp⟩
  obtain ⟨hn1, hn2⟩ := h.need u hcr hcl hv hsr
  rw [List.count_cons_self] at hn1
  have hul : u < S.need.length := by rw [h.sa.nneed]; exact hu
  have hns : (S.need.set u (S.need.getD u 0 - 1)).getD u 0 = S.need.getD u 0 - 1 := getD_set_eq _ _ _ _ hul
  have hnn : ∀ x, x ≠ u → (S.need.set u (S.need.getD u 0 - 1)).getD x 0 = S.need.getD x 0 := fun x hx => getD_set_ne' _ _ _ _ _ (Ne.symm hx)
  have hsub : ∀ r, r ∈ rd → r ∈ (if S.need.getD u 0 - 1 = 0 then rd ++ [u] else rd) := fun r hr => by
    split
    · exact List.mem_append_left _ hr
    · exact hr
  refine ⟨⟨⟨h.sa.same.val, h.sa.same.part, h.sa.same.closed, h.sa.same.wait, h.sa.same.opn, h.sa.same.queue⟩, h.sa.nsrc, ?_, ?_, h.sa.lost, h.sa.ll, h.sa.fs⟩, h.looked, h.src, ?_, ?_, fun r hr => h.uso r (List.mem_cons_of_mem _ hr), ?_⟩
  · show (S.need.set _ _).length = _
    rw [List.length_set]; exact h.sa.nneed
  · intro r hr
    show 0 ≤ (S.need.set u (S.need.getD u 0 - 1)).getD r 0 ∧ (S.need.set u (S.need.getD u 0 - 1)).getD r 0 ≤ 2000000
    have := h.sa.nb r hr
    by_cases hru : r = u
    · subst hru; rw [hns]; omega
    · rw [hnn r hru]; exact this
  · intro r hr hc' hv' hs'
    show (S.need.set u (S.need.getD u 0 - 1)).getD r 0 = ((needs D k S r + us.count r : Nat) : Int) ∧ ((S.need.set u (S.need.getD u 0 - 1)).getD r 0 = 0 → _)
    by_cases hru : r = u
    · subst hru
      rw [hns]
      refine ⟨by omega, fun hz => ?_⟩
      rw [if_pos hz]; simp
    · rw [hnn r hru]
      obtain ⟨h1, h2⟩ := h.need r hr hc' hv' hs'
      have e : (u :: us).count r = us.count r := by
        rw [List.count_cons]
        have : (u == r) = false := by simpa using Ne.symm hru
        rw [this]; rfl
      rw [e] at h1
      exact ⟨h1, fun hz => hsub r (h2 hz)⟩
  · intro r hr
    by_cases hz : S.need.getD u 0 - 1 = 0
    · rw [if_pos hz] at hr
      rcases List.mem_append.1 hr with h1 | h1
      · exact h.rdo r h1
      · have : r = u := by simpa using h1
        subst this
        exact ⟨hcr, hv, hcl, by show needs D k S r = 0; omega⟩
    · rw [if_neg hz] at hr
      exact h.rdo r hr
  · have := h.lb
    simp only [List.length_cons] at this
    show (if S.need.getD u 0 - 1 = 0 then rd ++ [u] else rd).length + us.length ≤ capM 200000 + capM (cS S.source)
    split
    · rw [List.length_append, List.length_singleton]; omega
    · omega
/-- Each undecided atom has a rule of its own, open, that rests on lower ones. -/
def Ranked (D : List Rl) (A : List Nat) (S : SS) : Prop := ∃ ρ : Nat → Nat, ∀ a ∈ A, S.val.getD a 0 = 1 → ∃ r, r < D.length ∧ (D.getD r rl0).head = a ∧ S.closed.getD r false = false ∧ ∀ b ∈ (D.getD r rl0).all, b ∈ A → S.val.getD b 0 = 1 → ρ b < ρ a
theorem Krn.same (h : Krn D n k A T U B []) (hq : B.queue = []) (sa : SA D n k A T U B S) : Krn D n k A T U { S with queue := [] } [] := by
  obtain ⟨⟨e1, e2, e3, e4, e5, e6⟩, h1, h2, h3, -⟩ := sa
  obtain ⟨v, p, o, s, lo, lk, wt, c, nd, q⟩ := S
  dsimp only at e1 e2 e3 e4 e5 e6 h1 h2 h3 ⊢
  subst e1; subst e2; subst e3; subst e4; subst e5
  have hW := h.W
  have hZ2 := h.Z2
  have hZ3 := h.Z3
  rw [hq] at hW hZ2 hZ3
  exact ⟨⟨h.len.nval, h.len.npart, h1, h.len.nopn, h.len.nwait, h.len.nclosed, h2⟩, h.prt, h.v3, fun a ha => (by cases ha), hW, h.Z1, hZ2, hZ3, h.C, h.O, h.K1, h.Ev, h.wb, h.ob, h3, h.s2, h.s0, h.supp⟩
structure QDx (D : List Rl) (n k : Nat) (A : List Nat) (T U : Nat → Prop) (S0 B S : SS) (b : Bool) (i : Nat) : Prop where
  core : Krn D n k A T U S []
  closed : S.closed = B.closed
  lost : ∀ x ∈ S.lost, x ∈ A
  ll : S.lost.length ≤ 3 * n
  looked : S.looked = B.looked + (S.lost.length : Nat)
  src : ∃ ρ : Nat → Nat, ∀ a ∈ A, S.val.getD a 0 = 1 → (S.source.getD a 0 < 0 ∧ a ∈ S.lost.drop i) ∨ ∃ r : Nat, S.source.getD a 0 = (r : Int) ∧ r < D.length ∧ (D.getD r rl0).head = a ∧ S.closed.getD r false = false ∧
    ∀ b ∈ (D.getD r rl0).all, b ∈ A → S.val.getD b 0 = 1 → 0 ≤ S.source.getD b 0 ∧ ρ b < ρ a
  unf : ∀ a ∈ A, S.val.getD a 0 = 1 → S.source.getD a 0 < 0 → ¬ U a
  rk : Ranked D A B → ∀ a ∈ A, S.val.getD a 0 = 1 → 0 ≤ S.source.getD a 0
  mq : muq S ≤ n
  frm : Frm D n A S0 S
  no : b = false → S.val = B.val ∧ S.queue = []
  yes : b = true → und S.val < und B.val
  ule : und S.val ≤ und B.val
  rkb : Ranked D A B → b = false
theorem QCx.next (tu : TU D n T U) (hok : Okay n D) (hA : ∀ x ∈ A, x < n) (hp : PEx D n k A T U S0 LB B []) (hq : B.queue = []) (h : QCx D n k A T U B S [] []) : QDx D n k A T U S0 B { S with queue := [] } false 0 := by
  have hc := hp.core
  have hcore := hc.same hq h.sa
  have hval := h.sa.same.val
  have hcl := h.sa.same.closed
  -- an undecided atom with no source: each rule of it is dead, or rests on such a one
  have hrule : ∀ a ∈ A, S.val.getD a 0 = 1 → S.source.getD a 0 < 0 → ∀ r, r < D.length → (D.getD r rl0).head = a → S.closed.getD r false = false → ∃ b ∈ (D.getD r rl0).all, b ∈ A ∧ S.val.getD b 0 = 1 ∧ S.source.getD b 0 < 0 := by
    intro a ha hv hs r hr hrh hcr
    obtain ⟨h1, h2⟩ := h.need r ⟨hr, by rw [hrh]; exact ha⟩ hcr (by rw [hrh]; exact hv) (by rw [hrh]; exact hs)
    have hpos : 0 < needs D k S r := by
      by_cases hz : needs D k S r = 0
      · have := h2 (by rw [h1, hz]; rfl)
        cases this
      · omega
    unfold needs at hpos
    obtain ⟨b, hb, hcond⟩ := List.countP_pos_iff.1 hpos
    have hcond := of_decide_eq_true hcond
    have hbn := (hok _ (getD_mem rl0 hr)).2.1 b hb
    refine ⟨b, hb, ?_, hcond.2.1, hcond.2.2⟩
    have := hcond.1
    rw [h.sa.same.part] at this
    exact (hc.prt b hbn).1 this
  refine ⟨hcore, hcl, h.sa.lost, h.sa.ll, h.looked, ?_, ?_, ?_, ?_, ?_, fun _ => ⟨hval, rfl⟩, fun e => (by cases e), (by show und S.val ≤ _; rw [hval]; exact Nat.le_refl _), fun _ => rfl⟩
  · obtain ⟨ρ, hsrc⟩ := h.src
    refine ⟨ρ, fun a ha hv => ?_⟩
    rcases hsrc a ha hv with h1 | ⟨r, h1, h2, h3, h4, h5⟩
    · exact .inl h1
    · exact .inr ⟨r, h1, h2, h3, h4, fun b hb hbA hbv => (h5 b hb hbA hbv).elim id (fun e => e.elim)⟩
  · intro a ha hv hs
    refine tu.hU (fun x => x ∈ A ∧ S.val.getD x 0 = 1 ∧ S.source.getD x 0 < 0) (fun x hx => ⟨hA x hx.1, fun r hr hrh => ?_⟩) a ⟨ha, hv, hs⟩
    have hoks := hok _ (getD_mem rl0 hr)
    cases hcr : S.closed.getD r false with
    | false =>
      obtain ⟨b, hb, h1⟩ := hrule x hx.1 hx.2.1 hx.2.2 r hr hrh hcr
      exact .inl ⟨b, hb, .inl h1⟩
    | true =>
      rcases hcore.C r ⟨hr, by rw [hrh]; exact hx.1⟩ hcr with h1 | ⟨b, hb, hbv⟩ | ⟨b, hb, hbv⟩
      · exact .inl ⟨_, h1, .inl (by rw [hrh]; exact hx)⟩
      · exact .inl ⟨b, hb, .inr (hcore.s0 b (hoks.2.1 b hb) hbv)⟩
      · exact .inr ⟨b, hb, hcore.s2 b (hoks.2.2 b hb) hbv⟩
  · rintro ⟨ρ, hrk⟩
    have key : ∀ N a, a ∈ A → S.val.getD a 0 = 1 → ρ a ≤ N → 0 ≤ S.source.getD a 0 := by
      intro N
      induction N with
      | zero =>
        intro a ha hv hN
        by_cases hs : S.source.getD a 0 < 0
        · obtain ⟨r, h1, h2, h3, h4⟩ := hrk a ha (by rw [← hval]; exact hv)
          obtain ⟨b, hb, hbA, hbv, hbs⟩ := hrule a ha hv hs r h1 h2 (by rw [hcl]; exact h3)
          have := h4 b hb hbA (by rw [← hval]; exact hbv)
          omega
        · omega
      | succ N ih =>
        intro a ha hv hN
        by_cases hs : S.source.getD a 0 < 0
        · obtain ⟨r, h1, h2, h3, h4⟩ := hrk a ha (by rw [← hval]; exact hv)
          obtain ⟨b, hb, hbA, hbv, hbs⟩ := hrule a ha hv hs r h1 h2 (by rw [hcl]; exact h3)
          have h5 := h4 b hb hbA (by rw [← hval]; exact hbv)
          have := ih b hbA hbv (by omega)
          omega
        · omega
    exact fun a ha hv => key _ a ha hv (Nat.le_refl _)
  · have := hp.mq
    unfold muq at this ⊢
    show und S.val + 0 ≤ n
    rw [hval]
    omega
  · refine ⟨fun x hx hxA => ?_, fun x hx hxA => ?_, fun x hx hxA => ?_, fun x hx hxA => ?_, fun r hr hrA => ?_, fun r hr hrA => ?_⟩
    · show S.val.getD x 0 = _; rw [hval]; exact hp.frm.v x hx hxA
    · show S.source.getD x 0 = _; rw [h.sa.fs x hx hxA]; exact hp.frm.s x hx hxA
    · show S.part.getD x 0 = _; rw [h.sa.same.part]; exact hp.frm.p x hx hxA
    · show S.opn.getD x 0 = _; rw [h.sa.same.opn]; exact hp.frm.o x hx hxA
    · show S.closed.getD r false = _; rw [hcl]; exact hp.frm.c r hr hrA
    · show S.wait.getD r 0 = _; rw [h.sa.same.wait]; exact hp.frm.w r hr hrA
theorem QDx.one {b : Bool} (h : QDx D n k A T U S0 B S b i) (hi : i < S.lost.length) (hs : ¬ (S.val.getD (S.lost.getD i 0) 0 = 1 ∧ S.source.getD (S.lost.getD i 0) 0 < 0)) : QDx D n k A T U S0 B S b (i + 1) := by
  refine ⟨h.core, h.closed, h.lost, h.ll, h.looked, ?_, h.unf, h.rk, h.mq, h.frm, h.no, h.yes, h.ule, h.rkb⟩
  obtain ⟨ρ, hsrc⟩ := h.src
  refine ⟨ρ, fun a ha hv => ?_⟩
  rcases hsrc a ha hv with h1 | h1
  · rcases drop_mem hi h1.2 with h2 | h2
    · rw [← h2] at hs; exact absurd ⟨hv, h1.1⟩ hs
    · exact .inl ⟨h1.1, h2⟩
  · exact .inr h1
theorem QDx.two {b : Bool} (hA : ∀ x ∈ A, x < n) (h : QDx D n k A T U S0 B S b i) (hi : i < S.lost.length) (hs : S.val.getD (S.lost.getD i 0) 0 = 1 ∧ S.source.getD (S.lost.getD i 0) 0 < 0) : QDx D n k A T U S0 B (decideF S (S.lost.getD i 0) 0) true (i + 1) := by
  have ha := h.lost _ (getD_mem 0 hi)
  obtain ⟨a, haE⟩ : ∃ a, S.lost.getD i 0 = a := ⟨_, rfl⟩
  rw [haE] at ha hs ⊢
  obtain ⟨e1, e2, e3, e4, e5⟩ := decide_src S a 0
  obtain ⟨e6, e7, e8⟩ := decide_wait S a 0
  have hu := und_set S.val a 0 (by decide) hs.1
  have hvl : (decideF S a 0).val = S.val.set a 0 := by unfold decideF; rw [if_pos hs.1]
  have hva : (decideF S a 0).val.getD a 0 ≠ 1 := decide_val S a 0 (by decide) (by rw [h.core.len.nval]; exact hA a ha)
  have hcore := h.core.dec hA ha (t := 0) (.inl rfl) (fun _ => h.unf a ha hs.1 hs.2) (fun e => by cases e)
  have hle := h.ule
  refine ⟨hcore, by rw [e7]; exact h.closed, by rw [e2]; exact h.lost, by rw [e2]; exact h.ll, by rw [e5, e2]; exact h.looked, ?_, ?_, ?_, by rw [muq_decide _ _ _ (by decide)]; exact h.mq, h.frm.decide ha 0, fun e => (by cases e), fun _ => by rw [hvl]; omega, by rw [hvl]; omega, fun hrk => ?_⟩
  · obtain ⟨ρ, hsrc⟩ := h.src
    refine ⟨ρ, fun x hx hv => ?_⟩
    rw [e1, e2, e7]
    rcases hsrc x hx (decide_one (by decide) hv) with h1 | ⟨r, h1, h2, h3, h4, h5⟩
    · rcases drop_mem hi h1.2 with h2 | h2
      · rw [haE] at h2; rw [h2] at hv; exact absurd hv hva
      · exact .inl ⟨h1.1, h2⟩
    · exact .inr ⟨r, h1, h2, h3, h4, fun b hb hbA hbv => h5 b hb hbA (decide_one (by decide) hbv)⟩
  · intro x hx hv hsx
    rw [e1] at hsx
    exact h.unf x hx (decide_one (by decide) hv) hsx
  · intro hrk x hx hv
    rw [e1]
    exact h.rk hrk x hx (decide_one (by decide) hv)
  · have := h.rk hrk a ha hs.1
    omega
/-- What a search that finds nothing leaves. -/
structure SDone (D : List Rl) (n k : Nat) (A : List Nat) (T U : Nat → Prop) (S0 B : SS) (LB : Int) (S : SS) : Prop where
  core : Krn D n k A T U S []
  queue : S.queue = []
  lost : S.lost = []
  val : S.val = B.val
  closed : S.closed = B.closed
  src : ∃ ρ : Nat → Nat, ∀ a ∈ A, S.val.getD a 0 = 1 → ∃ r : Nat, S.source.getD a 0 = (r : Int) ∧ r < D.length ∧ (D.getD r rl0).head = a ∧ S.closed.getD r false = false ∧
    ∀ b ∈ (D.getD r rl0).all, b ∈ A → S.val.getD b 0 = 1 → 0 ≤ S.source.getD b 0 ∧ ρ b < ρ a
  frm : Frm D n A S0 S
  lk0 : 0 ≤ S.looked
  lk : S.looked ≤ LB
  mq : muq S ≤ n
def SrchR (D : List Rl) (n k : Nat) (A : List Nat) (T U : Nat → Prop) (S0 B : SS) (LB : Int) (b : Bool) (S : SS) : Prop :=
  (b = true → PEx D n k A T U S0 LB S [] ∧ und S.val < und B.val) ∧ (b = false → SDone D n k A T U S0 B LB S) ∧ (Ranked D A B → b = false)
theorem QDx.fin {b : Bool} (hn : n ≤ 65536) (hp : PEx D n k A T U S0 LB B []) (h : QDx D n k A T U S0 B S b S.lost.length) : SrchR D n k A T U S0 B LB b { S with lost := [] } := by
  have hcore := h.core.src S.source h.core.len.nsource []
  have hsrc : ∃ ρ : Nat → Nat, ∀ a ∈ A, S.val.getD a 0 = 1 → ∃ r : Nat, S.source.getD a 0 = (r : Int) ∧ r < D.length ∧ (D.getD r rl0).head = a ∧ S.closed.getD r false = false ∧
      ∀ b ∈ (D.getD r rl0).all, b ∈ A → S.val.getD b 0 = 1 → 0 ≤ S.source.getD b 0 ∧ ρ b < ρ a := by
    obtain ⟨ρ, hs⟩ := h.src
    refine ⟨ρ, fun a ha hv => ?_⟩
    rcases hs a ha hv with h1 | h1
    · rw [List.drop_length] at h1; cases h1.2
    · exact h1
  have hfrm : Frm D n A S0 { S with lost := [] } := ⟨h.frm.v, h.frm.s, h.frm.p, h.frm.o, h.frm.c, h.frm.w⟩
  have hcs := cS_le S.source
  rw [h.core.len.nsource] at hcs
  have h1 := hp.lk0
  have h2 := hp.lk
  have h3 := h.looked
  have h4 := h.ll
  refine ⟨fun hb => ⟨⟨hcore, ?_, fun x hx => (by cases hx), ?_, ?_, ?_, h.mq, hfrm⟩, h.yes hb⟩, fun hb => ⟨hcore, (h.no hb).2, rfl, (h.no hb).1, h.closed, hsrc, hfrm, ?_, ?_, h.mq⟩, h.rkb⟩
  · obtain ⟨ρ, hs⟩ := hsrc
    refine ⟨ρ, fun a ha hv => ?_⟩
    obtain ⟨r, k1, k2, k3, k4, k5⟩ := hs a ha hv
    exact .inr ⟨r, k1, k2, k3, k4, fun b hb hbA hbv => .inl (k5 b hb hbA hbv)⟩
  · show 0 + cS S.source ≤ 3 * n
    omega
  · show 0 ≤ S.looked
    omega
  · show S.looked + ((und S.val + 1 : Nat) : Int) * 1000000 ≤ LB
    have := h.yes hb
    omega
  · show 0 ≤ S.looked
    omega
  · show S.looked ≤ LB
    omega
/-- THE SEARCH. -/
def srchOf (tu : TU D n T U) (hok : Okay n D) (hl : D.length + tot (D.map Rl.rd) ≤ 1048576) (hn : n ≤ 65536) (hA : ∀ x ∈ A, x < n) (hLB : LB ≤ 1000000000000000000) (hp : PEx D n k A T U S0 LB B []) (hq : B.queue = []) : Srch D n k B (SrchR D n k A T U S0 B LB) where
  QA := fun S i rs => QAx D n k A T U B S i rs ∧ ∀ r ∈ rs, r < D.length
  QB := QBx D n k A T U B
  QC := QCx D n k A T U B
  QD := QDx D n k A T U S0 B
  h0 := ⟨QAx.start hp, fun r hr => by cases hr⟩
  hAn := fun S i rs h => ⟨fun x hx => hA x (h.1.sa.lost x hx), by have := h.1.sa.ll; omega⟩
  hA1 := fun S i h hi hv => ⟨h.1.one hi hv, h.2⟩
  hA2 := fun S i h hi hv => ⟨h.1.two hok hi, fun r hr => ((mem_idxU D n D.length (Nat.le_refl _) hok _ r).1 hr).1⟩
  hA3 := fun S i r rs h => ⟨h.1.three hp.core (hok _ (getD_mem rl0 (h.2 r (List.mem_cons_self ..)))).1, fun x hx => h.2 x (List.mem_cons_of_mem _ hx)⟩
  tAB := fun S i h hi => ⟨by rw [h.1.sa.same.queue]; exact hq, by have h1 := hp.lk0; have h2 := hp.lk; rw [h.1.looked]; omega, by have := h.1.sa.ll; omega, h.1.next hi⟩
  hBn := fun S rd i rs h => ⟨fun x hx => hA x (h.sa.lost x hx), by
    have h1 := h.lb
    have h2 := capM_mono h.il
    have h3 := capM_mono (show S.lost.length ≤ 200000 by have := h.sa.ll; omega)
    have h4 : capM 200000 = 209715200000 := by decide
    have := h.sa.ll
    omega⟩
  hB1 := fun S rd i h hi hv => h.one hi hv
  hB2 := fun S rd i h hi hv => h.two hok (by omega) hi hv
  hB3 := fun S rd i r rs h hc => h.three hc
  hB4 := fun S rd i r rs h hc => h.four hl hc
  tBC := fun S rd h => h.next hok hn
  hCn := fun S rd us h => ⟨by
    have h1 := h.lb
    have h2 := cS_le S.source
    rw [h.sa.nsrc] at h2
    have h3 := capM_mono (show cS S.source ≤ 65536 by omega)
    have h4 : capM 200000 = 209715200000 := by decide
    have h5 : capM 65536 = 68719476736 := by decide
    omega, fun r hr => by have := h.sa.nb r hr; omega⟩
  hC0 := fun S rd r h => ⟨(h.rdo r (by simp)).1.1, fun hs => h.skipR hs, fun hs => h.take hok hl hA hp.core hs⟩
  hC1 := fun S rd u us h hs => h.skipU hok hp.core hs
  hC2 := fun S rd u us h hs => h.down hok hp.core hs
  tCD := fun S h => ⟨h.next tu hok hA hp hq, by have := h.sa.ll; omega⟩
  hDn := fun S b i h => ⟨fun x hx => hA x (h.lost x hx), by have := h.mq; unfold muq at this; omega⟩
  hD1 := fun S b i h hi hs => h.one hi hs
  hD2 := fun S b i h hi hs => h.two hA hi hs
  tD := fun S b h => h.fin hn hp
end
end Go.Proofs.Qxb6600121a
