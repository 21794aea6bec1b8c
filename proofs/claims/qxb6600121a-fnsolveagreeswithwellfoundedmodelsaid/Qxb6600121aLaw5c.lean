/-
  THE PLAIN LAW OF SETTLING (5c): the invariant at the start.
-/
import Derived.Test.Qxb6600121aLaw5b
namespace Go.Proofs.Qxb6600121a
open Go
structure SPre (D : List Rl) (n k : Nat) (A : List Nat) (T U : Nat → Prop) (LB : Int) (S : SS) : Prop where
  len : Lens n D S
  queue : S.queue = []
  v3 : ∀ x, x < n → S.val.getD x 0 = 0 ∨ S.val.getD x 0 = 1 ∨ S.val.getD x 0 = 2
  wb : ∀ r, r < D.length → 0 ≤ S.wait.getD r 0 ∧ S.wait.getD r 0 ≤ 2000000
  ob : ∀ a, a < n → 0 ≤ S.opn.getD a 0 ∧ S.opn.getD a 0 ≤ 2000000
  nb : ∀ r, r < D.length → 0 ≤ S.need.getD r 0 ∧ S.need.getD r 0 ≤ 2000000
  s2 : ∀ a, a < n → S.val.getD a 0 = 2 → T a
  s0 : ∀ a, a < n → S.val.getD a 0 = 0 → ¬ U a
  supp : ∀ Y : Nat → Prop, (∀ r, r < D.length → (∀ a ∈ (D.getD r rl0).all, S.val.getD a 0 = 2 ∧ Y a) → (∀ b ∈ (D.getD r rl0).unl, S.val.getD b 0 = 0) → Y (D.getD r rl0).head) → ∀ a, a < n → S.val.getD a 0 = 2 → Y a
  np : ∀ x, x < n → x ∉ A → S.part.getD x 0 ≠ (k : Int)
  lk0 : 0 ≤ S.looked
  lk : S.looked + 65537000000 ≤ LB
section
variable {D : List Rl} {n k : Nat} {A : List Nat} {T U : Nat → Prop} {S B S0 : SS} {LB : Int} {P : Nat → Prop}
theorem dead_false {S : SS} {r : Nat} (h : dead D S r = false) : (D.getD r rl0).head ∉ (D.getD r rl0).all ∧ (∀ a ∈ (D.getD r rl0).all, S.val.getD a 0 ≠ 0) ∧ ∀ a ∈ (D.getD r rl0).unl, S.val.getD a 0 ≠ 2 := by
  refine ⟨fun e => ?_, fun a ha e => ?_, fun a ha e => ?_⟩
  · rw [dead_all e (.inl rfl)] at h; cases h
  · rw [dead_all ha (.inr e)] at h; cases h
  · rw [dead_unl ha e] at h; cases h
theorem dead_true {S : SS} {r : Nat} (h : dead D S r = true) : (D.getD r rl0).head ∈ (D.getD r rl0).all ∨ (∃ a ∈ (D.getD r rl0).all, S.val.getD a 0 = 0) ∨ ∃ a ∈ (D.getD r rl0).unl, S.val.getD a 0 = 2 := by
  unfold dead at h
  rw [Bool.or_eq_true] at h
  rcases h with h | h
  · obtain ⟨a, ha, h1⟩ := List.any_eq_true.1 h
    rcases of_decide_eq_true h1 with h2 | h2
    · left; rw [← h2]; exact ha
    · exact .inr (.inl ⟨a, ha, h2⟩)
  · obtain ⟨a, ha, h1⟩ := List.any_eq_true.1 h
    exact .inr (.inr ⟨a, ha, of_decide_eq_true h1⟩)
theorem SPre.core2 (hok : Okay n D) (hl : D.length + tot (D.map Rl.rd) ≤ 1048576) (hA : ∀ x ∈ A, x < n) (h : SPre D n k A T U LB S) : CoreP (fun _ => False) D n k A T U (st2 D n A (st1 k A S)) [] := by
  have hi := ini_fold k A S
  have hb := bgA_fold D n hok A (st1 k A S) (by show (A.foldl (iniF k) S).closed.length = _; rw [hi.closed]; exact h.len.nclosed) (by show (A.foldl (iniF k) S).wait.length = _; rw [hi.wait]; exact h.len.nwait) (by show (A.foldl (iniF k) S).opn.length = _; rw [hi.opn]; exact h.len.nopn) hA
  obtain ⟨F, hF⟩ : ∃ F, F = st2 D n A (st1 k A S) := ⟨_, rfl⟩
  rw [← hF] at hb ⊢
  have hv : F.val = S.val := hb.al.val.trans hi.val
  have hd : ∀ r, dead D (st1 k A S) r = dead D F r := fun r => dead_val D (hb.al.val).symm r
  have hw : ∀ r, waits D (st1 k A S) r = waits D F r := fun r => waits_val D (hb.al.val).symm r
  have hq : F.queue = [] := by rw [hb.al.queue]; show (A.foldl (iniF k) S).queue = []; rw [hi.queue]; exact h.queue
  have hcl : ∀ r, CR D A r → F.closed.getD r false = dead D F r := fun r hr => by rw [hb.cl r hr.1, if_pos hr.2, hd]
  refine ⟨⟨?_, ?_, ?_, ?_, ?_, ?_, ?_⟩, ?_, ?_, ?_, ?_, ?_, ?_, ?_, ?_, ?_, fun r _ hf => hf.elim, fun e he => (by cases he), ?_, ?_, ?_, ?_, ?_, ?_⟩
  · rw [hv]; exact h.len.nval
  · rw [hb.al.part]; show (A.foldl (iniF k) S).part.length = n; rw [hi.np]; exact h.len.npart
  · rw [hb.al.source]; show (A.foldl (iniF k) S).source.length = n; rw [hi.ns]; exact h.len.nsource
  · rw [hb.al.nop]; show (A.foldl (iniF k) S).opn.length = n; rw [hi.opn]; exact h.len.nopn
  · rw [hb.al.nwt]; show (A.foldl (iniF k) S).wait.length = _; rw [hi.wait]; exact h.len.nwait
  · rw [hb.al.ncl]; show (A.foldl (iniF k) S).closed.length = _; rw [hi.closed]; exact h.len.nclosed
  · rw [hb.al.need]; show (A.foldl (iniF k) S).need.length = _; rw [hi.need]; exact h.len.nneed
  · intro x hx
    rw [hb.al.part]
    show (A.foldl (iniF k) S).part.getD x 0 = _ ↔ _
    constructor
    · intro e
      by_cases hxA : x ∈ A
      · exact hxA
      · rw [hi.p2 x hxA] at e; exact absurd e (h.np x hx hxA)
    · intro hxA
      exact hi.p1 x hxA (by rw [h.len.npart]; exact hx)
  · intro x hx; rw [hv]; exact h.v3 x hx
  · intro a ha; rw [hq] at ha; cases ha
  · intro r hr hc
    rw [hcl r hr] at hc
    rw [hb.wt r hr.1 hr.2 (by rw [hd]; exact hc), hw, hq]
    rfl
  · intro r hr hc
    rw [hcl r hr] at hc
    exact (dead_false hc).1
  · intro r hr hc a ha he
    rw [hcl r hr] at hc
    exact absurd he ((dead_false hc).2.1 a ha)
  · intro r hr hc a ha he
    rw [hcl r hr] at hc
    exact absurd he ((dead_false hc).2.2 a ha)
  · intro r hr hc
    rw [hcl r hr] at hc
    exact dead_true hc
  · intro a ha
    rw [hb.op a ha]
    unfold openN
    have : ((idxH D n D.length).getD a []).countP (fun r => !dead D (st1 k A S) r) = ((idxH D n D.length).getD a []).countP (fun r => !F.closed.getD r false) := by
      apply List.countP_congr
      intro r hr
      obtain ⟨h1, h2⟩ := (mem_idxH D n D.length (Nat.le_refl _) hok a r).1 hr
      rw [hcl r ⟨h1, by rw [h2]; exact ha⟩, hd]
    rw [this]
  · intro r hr
    have h1 := waits_le D (st1 k A S) r hl
    have h2 := h.wb r hr
    rcases hb.wb r with h3 | h3
    · rw [h3]; show 0 ≤ (A.foldl (iniF k) S).wait.getD r 0 ∧ (A.foldl (iniF k) S).wait.getD r 0 ≤ _; rw [hi.wait]; exact h2
    · rw [h3]; omega
  · intro a ha
    by_cases haA : a ∈ A
    · rw [hb.op a haA]
      have h1 := List.countP_le_length (p := fun r => !dead D (st1 k A S) r) (l := (idxH D n D.length).getD a [])
      have h2 := idxH_short D n D.length a
      omega
    · rw [hb.op2 a haA]; show 0 ≤ (A.foldl (iniF k) S).opn.getD a 0 ∧ (A.foldl (iniF k) S).opn.getD a 0 ≤ _; rw [hi.opn]; exact h.ob a ha
  · intro r hr
    rw [hb.al.need]; show 0 ≤ (A.foldl (iniF k) S).need.getD r 0 ∧ (A.foldl (iniF k) S).need.getD r 0 ≤ _; rw [hi.need]; exact h.nb r hr
  · rw [hv]; exact h.s2
  · rw [hv]; exact h.s0
  · rw [hv]; exact h.supp
/-- A rule whose body is settled as it asks. -/
theorem CoreP.sat0 (hok : Okay n D) (h : CoreP P D n k A T U S []) {r : Nat} (hcr : CR D A r) (hc : S.closed.getD r false = false) (hw : S.wait.getD r 0 = 0) :
    (∀ b ∈ (D.getD r rl0).all, S.val.getD b 0 = 2) ∧ ∀ b ∈ (D.getD r rl0).unl, S.val.getD b 0 = 0 := by
  have hW := h.W r hcr hc
  rw [hw] at hW
  have hwz : waits D S r = 0 := by omega
  have hpz : pendQ D S.queue r = 0 := by omega
  obtain ⟨h1, h2⟩ := waits_zero hwz
  have hoks := hok _ (getD_mem rl0 hcr.1)
  refine ⟨fun b hb => ?_, fun b hb => ?_⟩
  · rcases h.v3 b (hoks.2.1 b hb) with hv | hv | hv
    · rcases h.Z2 r hcr hc b hb hv with h3 | h3
      · have := pendQ_pos h3 (occ_all hb); omega
      · cases h3
    · exact absurd hv (h1 b hb)
    · exact hv
  · rcases h.v3 b (hoks.2.2 b hb) with hv | hv | hv
    · exact hv
    · exact absurd hv (h2 b hb)
    · rcases h.Z3 r hcr hc b hb hv with h3 | h3
      · have := pendQ_pos h3 (occ_unl hb); omega
      · cases h3
theorem CoreP.grow {P' : Nat → Prop} (h : CoreP P D n k A T U S []) (hk : ∀ r, CR D A r → P' r → S.closed.getD r false = false → S.wait.getD r 0 = 0 → S.val.getD (D.getD r rl0).head 0 ≠ 1) : CoreP P' D n k A T U S [] :=
  ⟨h.len, h.prt, h.v3, h.qn, h.W, h.Z1, h.Z2, h.Z3, h.C, h.O, hk, h.Ev, h.wb, h.ob, h.nb, h.s2, h.s0, h.supp⟩
/-- Only values and the queue have turned, and only within the component. -/
structure Dec (D : List Rl) (n : Nat) (A : List Nat) (S F : SS) : Prop where
  source : F.source = S.source
  lost : F.lost = S.lost
  opn : F.opn = S.opn
  need : F.need = S.need
  looked : F.looked = S.looked
  wait : F.wait = S.wait
  closed : F.closed = S.closed
  part : F.part = S.part
  v : ∀ x, x ∉ A → F.val.getD x 0 = S.val.getD x 0
  u : und F.val ≤ und S.val
theorem Dec.refl (S : SS) : Dec D n A S S := ⟨rfl, rfl, rfl, rfl, rfl, rfl, rfl, rfl, fun _ _ => rfl, Nat.le_refl _⟩
theorem Dec.trans {F G : SS} (h : Dec D n A S F) (g : Dec D n A F G) : Dec D n A S G :=
  ⟨g.source.trans h.source, g.lost.trans h.lost, g.opn.trans h.opn, g.need.trans h.need, g.looked.trans h.looked, g.wait.trans h.wait, g.closed.trans h.closed, g.part.trans h.part, fun x hx => (g.v x hx).trans (h.v x hx), Nat.le_trans g.u h.u⟩
theorem Dec.pv (S : SS) {a : Nat} (ha : a ∈ A) (r : Nat) : Dec D n A S (pvF a S r) := by
  unfold pvF
  split
  · obtain ⟨e1, e2, e3, e4, e5⟩ := decide_src S a 2
    obtain ⟨e6, e7, e8⟩ := decide_wait S a 2
    refine ⟨e1, e2, e3, e4, e5, e6, e7, e8, fun x hx => ?_, und_decide S a 2 (by decide)⟩
    unfold decideF
    split
    · exact getD_set_ne' _ _ _ _ _ (fun e => hx (e ▸ ha))
    · rfl
  · exact Dec.refl S
theorem CoreP.pv (tu : TU D n T U) (hok : Okay n D) (hA : ∀ x ∈ A, x < n) (h : CoreP P D n k A T U S []) {a r : Nat} (ha : a ∈ A) (hr : r < D.length) (hrh : (D.getD r rl0).head = a) : CoreP (fun x => P x ∨ x = r) D n k A T U (pvF a S r) [] := by
  have hcr : CR D A r := ⟨hr, by rw [hrh]; exact ha⟩
  unfold pvF
  split
  · rename_i hc
    obtain ⟨k1, k2⟩ := h.sat0 hok hcr hc.1 hc.2
    have hoks := hok _ (getD_mem rl0 hr)
    have hT : T a := by rw [← hrh]; exact tu.hT r hr (fun b hb => h.s2 b (hoks.2.1 b hb) (k1 b hb)) (fun b hb => h.s0 b (hoks.2.2 b hb) (k2 b hb))
    have h1 := h.dec hA ha (t := 2) (.inr rfl) (fun e => by cases e) (fun _ => ⟨hT, r, hr, hrh, k1, k2⟩)
    refine h1.grow (fun x hx hP hcx hwx => ?_)
    rcases hP with hP | hP
    · exact h1.K1 x hx hP hcx hwx
    · rw [hP, hrh]
      exact decide_val S a 2 (by decide) (by rw [h.len.nval]; exact hA a ha)
  · rename_i hc
    refine h.grow (fun x hx hP hcx hwx => ?_)
    rcases hP with hP | hP
    · exact h.K1 x hx hP hcx hwx
    · subst hP; exact absurd ⟨hcx, hwx⟩ hc
theorem CoreP.pvl (tu : TU D n T U) (hok : Okay n D) (hA : ∀ x ∈ A, x < n) {a : Nat} (ha : a ∈ A) (l : List Nat) (hl : ∀ r ∈ l, r < D.length ∧ (D.getD r rl0).head = a) (P : Nat → Prop) (S : SS) (h : CoreP P D n k A T U S []) :
    CoreP (fun x => P x ∨ x ∈ l) D n k A T U (l.foldl (pvF a) S) [] ∧ Dec D n A S (l.foldl (pvF a) S) := by
  induction l generalizing S P with
  | nil => exact ⟨h.grow (fun x hx hP => h.K1 x hx (hP.elim id (fun e => by cases e))), Dec.refl S⟩
  | cons r l ih =>
    obtain ⟨h1, h2⟩ := hl r (List.mem_cons_self ..)
    have h3 := h.pv tu hok hA ha h1 h2
    obtain ⟨h4, h5⟩ := ih (fun x hx => hl x (List.mem_cons_of_mem _ hx)) _ _ h3
    rw [List.foldl_cons]
    refine ⟨h4.grow (fun x hx hP => h4.K1 x hx ?_), (Dec.pv S ha r).trans h5⟩
    rcases hP with hP | hP
    · exact .inl (.inl hP)
    · rcases List.mem_cons.1 hP with hP | hP
      · exact .inl (.inr hP)
      · exact .inr hP
theorem CoreP.pvA (tu : TU D n T U) (hok : Okay n D) (hA : ∀ x ∈ A, x < n) (A' : List Nat) (hs : ∀ x ∈ A', x ∈ A) (P : Nat → Prop) (S : SS) (h : CoreP P D n k A T U S []) :
    CoreP (fun x => P x ∨ (D.getD x rl0).head ∈ A') D n k A T U (st3 D n A' S) [] ∧ Dec D n A S (st3 D n A' S) := by
  unfold st3
  induction A' generalizing S P with
  | nil => exact ⟨h.grow (fun x hx hP => h.K1 x hx (hP.elim id (fun e => by cases e))), Dec.refl S⟩
  | cons a A' ih =>
    have ha := hs a (List.mem_cons_self ..)
    obtain ⟨h1, h2⟩ := CoreP.pvl tu hok hA ha ((idxH D n D.length).getD a []) (fun r hr => (mem_idxH D n D.length (Nat.le_refl _) hok a r).1 hr) P S h
    obtain ⟨h4, h5⟩ := ih (fun x hx => hs x (List.mem_cons_of_mem _ hx)) _ _ h1
    rw [List.foldl_cons]
    refine ⟨h4.grow (fun x hx hP => h4.K1 x hx ?_), h2.trans h5⟩
    rcases hP with hP | hP
    · exact .inl (.inl hP)
    · rcases List.mem_cons.1 hP with hP | hP
      · exact .inl (.inr ((mem_idxH D n D.length (Nat.le_refl _) hok a x).2 ⟨hx.1, hP⟩))
      · exact .inr hP
end
end Go.Proofs.Qxb6600121a
