/-
  THE PLAIN LAW OF THE WELL-FOUNDED MODEL (6): the alternating fixpoint, and what the solver's end says of it.
-/
import Derived.Test.Qxb6600121aSolP
namespace Go.Proofs.Qxb6600121a
open Go
section
variable {D : List Rl} {n K : Nat} {J J' : Nat → Prop} {S : SS} {atoms ends : List Nat} {a : Nat}
/-- The least set that the rules make hold where no rule with an atom of J in its Unless fires. -/
def Lst (D : List Rl) (J : Nat → Prop) (a : Nat) : Prop :=
  ∀ Y : Nat → Prop, (∀ r, r < D.length → (∀ b ∈ (D.getD r rl0).all, Y b) → (∀ b ∈ (D.getD r rl0).unl, ¬ J b) → Y (D.getD r rl0).head) → Y a
theorem Lst.rule {r : Nat} (hr : r < D.length) (ha : ∀ b ∈ (D.getD r rl0).all, Lst D J b) (hu : ∀ b ∈ (D.getD r rl0).unl, ¬ J b) : Lst D J (D.getD r rl0).head :=
  fun Y hY => hY r hr (fun b hb => ha b hb Y hY) hu
theorem Lst.anti (h : ∀ a, J a → J' a) (hl : Lst D J' a) : Lst D J a :=
  fun Y hY => hl Y (fun r hr ha hu => hY r hr ha (fun b hb e => hu b hb (h b e)))
theorem Lst.lt (hok : Okay n D) (h : Lst D J a) : a < n := h (fun x => x < n) (fun _ hr _ _ => (hok _ (getD_mem rl0 hr)).1)
/-- True, and not false, in the well-founded reading. -/
def WT (D : List Rl) (a : Nat) : Prop := ∀ Y : Nat → Prop, (∀ x, Lst D (Lst D Y) x → Y x) → Y a
def WU (D : List Rl) (a : Nat) : Prop := Lst D (WT D) a
theorem lst2_mono (h : ∀ a, J a → J' a) (hl : Lst D (Lst D J) a) : Lst D (Lst D J') a := Lst.anti (fun _ hb => Lst.anti h hb) hl
theorem WT.close (h : Lst D (WU D) a) : WT D a := fun Y hY => hY a (lst2_mono (fun _ hb => hb Y hY) h)
theorem WT.open (h : WT D a) : Lst D (WU D) a := h _ (fun _ hx => lst2_mono (fun _ hb => WT.close hb) hx)
theorem WT.u (h : WT D a) : WU D a := h _ (fun _ hx => Lst.anti (fun _ hb => WT.open hb) hx)
theorem tuWF (D : List Rl) (n : Nat) : TU D n (WT D) (WU D) where
  hT := fun r hr ha hu => WT.close (Lst.rule hr (fun b hb => (ha b hb).open) hu)
  hU := fun X hX a hXa hUa => by
    have h1 : WU D a ∧ ¬ X a := hUa (fun b => WU D b ∧ ¬ X b) (fun r hr ha hu => by
      refine ⟨Lst.rule hr (fun b hb => (ha b hb).1) hu, fun hx => ?_⟩
      rcases (hX _ hx).2 r hr rfl with ⟨b, hb, h2 | h2⟩ | ⟨b, hb, h2⟩
      · exact (ha b hb).2 h2
      · exact h2 (ha b hb).1
      · exact hu b hb h2)
    exact h1.2 hXa
theorem RKx.under (hok : Okay n D) (hp : Part n atoms ends) (h : RKx D n (WT D) (WU D) atoms ends ends.length K S) {r : Nat} (hr : r < D.length)
    (ha : ∀ b ∈ (D.getD r rl0).all, S.val.getD b 0 = 2) (hu : ∀ b ∈ (D.getD r rl0).unl, S.val.getD b 0 = 0) : S.val.getD (D.getD r rl0).head 0 = 2 := by
  have hrok := hok _ (getD_mem rl0 hr)
  by_cases hself : (D.getD r rl0).head ∈ (D.getD r rl0).all
  · exact ha _ hself
  obtain ⟨i, hi, hie⟩ := hp.at hrok.1
  obtain ⟨j, hj, h1, h2⟩ := hp.seg hi
  have hm : (D.getD r rl0).head ∈ sg atoms ends j := by rw [← hie]; exact sg_mem h1 h2 (by rw [hp.len]; exact (hp.inc j hj).2)
  have hf := h.fixed j hj hj
  have hd : dead D S r = false := by
    cases hd : dead D S r with
    | false => rfl
    | true =>
      rcases dead_true hd with h3 | ⟨b, hb, he⟩ | ⟨b, hb, he⟩
      · exact absurd h3 hself
      · rw [ha b hb] at he; cases he
      · rw [hu b hb] at he; cases he
  have hw : waits D S r = 0 := waits_of (fun b hb e => by rw [ha b hb] at e; cases e) (fun b hb e => by rw [hu b hb] at e; cases e)
  have h3 := hf.core.fired h.queue ⟨hr, hm⟩ hd hw
  rcases h.v3 _ hrok.1 with h4 | h4 | h4
  · exfalso
    exact h.s0 _ hrok.1 h4 ((tuWF D n).hT r hr (fun b hb => h.s2 b (hrok.2.1 b hb) (ha b hb)) (fun b hb => h.s0 b (hrok.2.2 b hb) (hu b hb))).u
  · exact absurd h4 h3
  · exact h4
theorem RKx.over (hok : Okay n D) (hfin : Fin' D n atoms ends) (h : RKx D n (WT D) (WU D) atoms ends ends.length K S) (hn : a < n) (hv : S.val.getD a 0 ≠ 0) : Lst D (fun b => S.val.getD b 0 = 2) a := by
  have hp := hfin.part
  intro Y hY
  have hP : ∀ b, b < n → S.val.getD b 0 = 2 → Y b := h.supp Y (fun r hr ha hu => hY r hr (fun b hb => (ha b hb).2) (fun b hb e => by have e : S.val.getD b 0 = 2 := e; rw [hu b hb] at e; cases e))
  have hC : ∀ k, k < ends.length → ∀ b ∈ sg atoms ends k, S.val.getD b 0 = 1 → Y b := by
    intro k
    induction k using Nat.strongRecOn with
    | _ k ih =>
      intro hk
      have hf := h.fixed k hk hk
      obtain ⟨ρ, hsrc⟩ := hf.src
      have hR : ∀ m b, ρ b < m → b ∈ sg atoms ends k → S.val.getD b 0 = 1 → Y b := by
        intro m
        induction m with
        | zero => intro b hm; omega
        | succ m ihm =>
          intro b hm hb hbv
          obtain ⟨r, h1, h2, h3, h4, h5⟩ := hsrc b hb hbv
          obtain ⟨d1, d2, d3⟩ := dead_false (hf.core.alive h.queue ⟨h2, by rw [h3]; exact hb⟩ h4)
          have hrok := hok _ (getD_mem rl0 h2)
          rw [← h3]
          refine hY r h2 (fun c hc => ?_) (fun c hc => d3 c hc)
          have hcn := hrok.2.1 c hc
          rcases h.v3 c hcn with h6 | h6 | h6
          · exact absurd h6 (d2 c hc)
          · have hct := hfin.cl k hk b (sg_take hb) c ⟨r, h2, h3, List.mem_append_left _ hc⟩
            obtain ⟨j, hj, hjl, rfl⟩ := mem_take' hct
            have hjn : j < n := by rw [← hp.len]; exact hjl
            obtain ⟨k', hk', h7, h8⟩ := hp.seg hjn
            have hm' : atoms.getD j 0 ∈ sg atoms ends k' := sg_mem h7 h8 (by rw [hp.len]; exact (hp.inc k' hk').2)
            by_cases hlt : k' < k
            · exact ih k' hlt hk' _ hm' h6
            · by_cases hgt : k < k'
              · have := hp.ends_mono (j := k + 1) (k := k') hgt (by omega)
                rw [prevE_succ] at this
                omega
              · have he : k' = k := by omega
                subst he
                have := (h5 _ hc hm' h6).2
                exact ihm _ (by omega) hm' h6
          · exact hP c hcn h6
      intro b hb hbv
      exact hR (ρ b + 1) b (by omega) hb hbv
  rcases h.v3 a hn with h1 | h1 | h1
  · exact absurd h1 hv
  · obtain ⟨i, hi, hie⟩ := hp.at hn
    obtain ⟨j, hj, h2, h3⟩ := hp.seg hi
    exact hC j hj a (by rw [← hie]; exact sg_mem h2 h3 (by rw [hp.len]; exact (hp.inc j hj).2)) h1
  · exact hP a hn h1
/-- THE SOLVER'S END is the well-founded model. -/
theorem RKx.agree (hok : Okay n D) (hfin : Fin' D n atoms ends) (h : RKx D n (WT D) (WU D) atoms ends ends.length K S) (hn : a < n) : (S.val.getD a 0 = 2 ↔ WT D a) ∧ (S.val.getD a 0 = 0 ↔ ¬ WU D a) := by
  have hlt : ∀ b, S.val.getD b 0 ≠ 0 → b < n := fun b hb => by
    by_cases hbn : b < n
    · exact hbn
    · exfalso
      apply hb
      rw [List.getD_eq_getElem?_getD, List.getElem?_eq_none (by rw [h.len.nval]; omega)]
      rfl
  have hA : ∀ x, Lst D (fun b => S.val.getD b 0 ≠ 0) x → S.val.getD x 0 = 2 := fun x hx =>
    hx (fun b => S.val.getD b 0 = 2) (fun r hr ha hu => h.under hok hfin.part hr ha (fun b hb => by
      by_cases e : S.val.getD b 0 = 0
      · exact e
      · exact absurd e (hu b hb)))
  have hB : ∀ x, S.val.getD x 0 ≠ 0 → Lst D (fun b => S.val.getD b 0 = 2) x := fun x hx => h.over hok hfin (hlt x hx) hx
  have hT : ∀ x, WT D x → S.val.getD x 0 = 2 := fun x hx => hx (fun b => S.val.getD b 0 = 2) (fun y hy => hA y (Lst.anti hB hy))
  have hU : ∀ x, S.val.getD x 0 ≠ 0 → WU D x := fun x hx => Lst.anti hT (hB x hx)
  refine ⟨⟨h.s2 a hn, hT a⟩, ⟨h.s0 a hn, fun e => ?_⟩⟩
  by_cases e2 : S.val.getD a 0 = 0
  · exact e2
  · exact absurd (hU a e2) e
end
end Go.Proofs.Qxb6600121a
