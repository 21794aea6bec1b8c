/-
  THE PLAIN LAW OF SOLVING (6): components one after another.
-/
import Derived.Test.Qxb6600121aLaw5d
namespace Go.Proofs.Qxb6600121a
open Go
section
variable {D : List Rl} {n j k : Nat} {A A' : List Nat} {T U : Nat → Prop} {S S' : SS} {LB : Int}
/-- A component settled, as it stays. -/
structure Fixed (D : List Rl) (n j : Nat) (A : List Nat) (T U : Nat → Prop) (S : SS) : Prop where
  core : Krn D n j A T U S []
  src : ∃ ρ : Nat → Nat, ∀ a ∈ A, S.val.getD a 0 = 1 → ∃ r : Nat, S.source.getD a 0 = (r : Int) ∧ r < D.length ∧ (D.getD r rl0).head = a ∧ S.closed.getD r false = false ∧
    ∀ b ∈ (D.getD r rl0).all, b ∈ A → S.val.getD b 0 = 1 → 0 ≤ S.source.getD b 0 ∧ ρ b < ρ a
theorem waits_congr {S S' : SS} {r : Nat} (h : ∀ x ∈ body D r, S'.val.getD x 0 = S.val.getD x 0) : waits D S' r = waits D S r := by
  unfold waits
  have e1 : (D.getD r rl0).all.countP (fun a => decide (S'.val.getD a 0 = 1)) = (D.getD r rl0).all.countP (fun a => decide (S.val.getD a 0 = 1)) := List.countP_congr (fun x hx => by rw [h x (List.mem_append_left _ hx)])
  have e2 : (D.getD r rl0).unl.countP (fun a => decide (S'.val.getD a 0 = 1)) = (D.getD r rl0).unl.countP (fun a => decide (S.val.getD a 0 = 1)) := List.countP_congr (fun x hx => by rw [h x (List.mem_append_right _ hx)])
  omega
theorem Fixed.frame (hok : Okay n D) (h : Fixed D n j A T U S) (hq : S.queue = []) (hk : Krn D n k A' T U S' []) (hq' : S'.queue = []) (hf : Frm D n A' S S') (hd : ∀ x ∈ A, x ∉ A') (hjk : j ≠ k) (hA : ∀ x ∈ A, x < n)
    (hbody : ∀ r, CR D A r → ∀ x ∈ body D r, S'.val.getD x 0 = S.val.getD x 0) : Fixed D n j A T U S' := by
  have hc : ∀ r, CR D A r → S'.closed.getD r false = S.closed.getD r false := fun r hr => hf.c r hr.1 (hd _ hr.2)
  have hw : ∀ r, CR D A r → S'.wait.getD r 0 = S.wait.getD r 0 := fun r hr => hf.w r hr.1 (hd _ hr.2)
  have hv : ∀ a ∈ A, S'.val.getD a 0 = S.val.getD a 0 := fun a ha => hf.v a (hA a ha) (hd a ha)
  have hs : ∀ a ∈ A, S'.source.getD a 0 = S.source.getD a 0 := fun a ha => hf.s a (hA a ha) (hd a ha)
  have ha : ∀ r, CR D A r → ∀ x ∈ (D.getD r rl0).all, S'.val.getD x 0 = S.val.getD x 0 := fun r hr x hx => hbody r hr x (List.mem_append_left _ hx)
  have hu : ∀ r, CR D A r → ∀ x ∈ (D.getD r rl0).unl, S'.val.getD x 0 = S.val.getD x 0 := fun r hr x hx => hbody r hr x (List.mem_append_right _ hx)
  refine ⟨⟨hk.len, ?_, hk.v3, fun a ha => (by rw [hq'] at ha; cases ha), ?_, ?_, ?_, ?_, ?_, ?_, ?_, fun e he => (by cases he), hk.wb, hk.ob, hk.nb, hk.s2, hk.s0, hk.supp⟩, ?_⟩
  · intro x hx
    by_cases hxA : x ∈ A'
    · rw [(hk.prt x hx).2 hxA]
      constructor
      · intro e
        exact absurd (Int.ofNat_inj.1 e).symm hjk
      · intro e; exact absurd hxA (hd x e)
    · rw [hf.p x hx hxA]; exact h.core.prt x hx
  · intro r hr hcl
    rw [hc r hr] at hcl
    rw [hw r hr, h.core.W r hr hcl, waits_congr (hbody r hr), hq, hq']
  · intro r hr hcl
    rw [hc r hr] at hcl
    exact h.core.Z1 r hr hcl
  · intro r hr hcl x hx he
    rw [hc r hr] at hcl
    rw [ha r hr x hx] at he
    rcases h.core.Z2 r hr hcl x hx he with h1 | h1
    · rw [hq] at h1; cases h1
    · cases h1
  · intro r hr hcl x hx he
    rw [hc r hr] at hcl
    rw [hu r hr x hx] at he
    rcases h.core.Z3 r hr hcl x hx he with h1 | h1
    · rw [hq] at h1; cases h1
    · cases h1
  · intro r hr hcl
    rw [hc r hr] at hcl
    rcases h.core.C r hr hcl with h1 | ⟨x, hx, he⟩ | ⟨x, hx, he⟩
    · exact .inl h1
    · exact .inr (.inl ⟨x, hx, by rw [ha r hr x hx]; exact he⟩)
    · exact .inr (.inr ⟨x, hx, by rw [hu r hr x hx]; exact he⟩)
  · intro a haA
    rw [hf.o a (hA a haA) (hd a haA), h.core.O a haA]
    unfold openN
    have : ((idxH D n D.length).getD a []).countP (fun r => !S.closed.getD r false) = ((idxH D n D.length).getD a []).countP (fun r => !S'.closed.getD r false) := by
      apply List.countP_congr
      intro r hr
      obtain ⟨h1, h2⟩ := (mem_idxH D n D.length (Nat.le_refl _) hok a r).1 hr
      rw [hc r ⟨h1, by rw [h2]; exact haA⟩]
    rw [this]
  · intro r hr hP hcl hwt
    rw [hc r hr] at hcl
    rw [hw r hr] at hwt
    rw [hv _ hr.2]
    exact h.core.K1 r hr hP hcl hwt
  · obtain ⟨ρ, hsrc⟩ := h.src
    refine ⟨ρ, fun a haA hav => ?_⟩
    rw [hv a haA] at hav
    obtain ⟨r, h1, h2, h3, h4, h5⟩ := hsrc a haA hav
    refine ⟨r, by rw [hs a haA]; exact h1, h2, h3, by rw [hc r ⟨h2, by rw [h3]; exact haA⟩]; exact h4, fun b hb hbA hbv => ?_⟩
    rw [hv b hbA] at hbv
    rw [hs b hbA]
    exact h5 b hb hbA hbv
end
end Go.Proofs.Qxb6600121a
