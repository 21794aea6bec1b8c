/-
  THE PLAIN LAW OF THE SOLVER (3c): sources, what is kept, and the invariant of 'follow'.
-/
import Derived.Test.Qxb6600121aLaw3b
namespace Go.Proofs.Qxb6600121a
open Go
/-- Sources, with a rank; 'G r b': what excuses atom b of rule r. -/
def SrcG (D : List Rl) (A : List Nat) (S : SS) (G : Nat → Nat → Prop) : Prop :=
  ∃ ρ : Nat → Nat, ∀ a ∈ A, S.val.getD a 0 = 1 → (S.source.getD a 0 < 0 ∧ a ∈ S.lost) ∨ ∃ r : Nat, S.source.getD a 0 = (r : Int) ∧ r < D.length ∧ (D.getD r rl0).head = a ∧ S.closed.getD r false = false ∧
    ∀ b ∈ (D.getD r rl0).all, b ∈ A → S.val.getD b 0 = 1 → (0 ≤ S.source.getD b 0 ∧ ρ b < ρ a) ∨ G r b
structure Frm (D : List Rl) (n : Nat) (A : List Nat) (S0 S : SS) : Prop where
  v : ∀ x, x < n → x ∉ A → S.val.getD x 0 = S0.val.getD x 0
  s : ∀ x, x < n → x ∉ A → S.source.getD x 0 = S0.source.getD x 0
  p : ∀ x, x < n → x ∉ A → S.part.getD x 0 = S0.part.getD x 0
  o : ∀ x, x < n → x ∉ A → S.opn.getD x 0 = S0.opn.getD x 0
  c : ∀ r, r < D.length → (D.getD r rl0).head ∉ A → S.closed.getD r false = S0.closed.getD r false
  w : ∀ r, r < D.length → (D.getD r rl0).head ∉ A → S.wait.getD r 0 = S0.wait.getD r 0
section
variable {D : List Rl} {n k : Nat} {A : List Nat} {T U : Nat → Prop} {S S0 : SS} {evs : List (Nat × Bool)} {G G' : Nat → Nat → Prop}
theorem decide_one {S : SS} {a x : Nat} {t : Int} (_ht : t ≠ 1) (h : (decideF S a t).val.getD x 0 = 1) : S.val.getD x 0 = 1 := by
  unfold decideF at h
  split at h
  · have h : (S.val.set a t).getD x 0 = 1 := h
    by_cases hx : a = x
    · subst hx
      assumption
    · rw [getD_set_ne' _ _ _ _ _ hx] at h; exact h
  · exact h
theorem decide_src (S : SS) (a : Nat) (t : Int) : (decideF S a t).source = S.source ∧ (decideF S a t).lost = S.lost ∧ (decideF S a t).opn = S.opn ∧ (decideF S a t).need = S.need ∧ (decideF S a t).looked = S.looked := by
  unfold decideF
  split <;> exact ⟨rfl, rfl, rfl, rfl, rfl⟩
theorem SrcG.decide {a : Nat} {t : Int} (ht : t ≠ 1) (h : SrcG D A S G) : SrcG D A (decideF S a t) G := by
  obtain ⟨ρ, h⟩ := h
  obtain ⟨e1, e2, -⟩ := decide_src S a t
  obtain ⟨-, e3, -⟩ := decide_wait S a t
  refine ⟨ρ, fun x hx hv => ?_⟩
  rw [e1, e2, e3]
  rcases h x hx (decide_one ht hv) with h1 | ⟨r, h1, h2, h3, h4, h5⟩
  · exact .inl h1
  · exact .inr ⟨r, h1, h2, h3, h4, fun b hb hbA hbv => h5 b hb hbA (decide_one ht hbv)⟩
theorem SrcG.mono (h : SrcG D A S G) (hg : ∀ r b, G r b → G' r b) : SrcG D A S G' := by
  obtain ⟨ρ, h⟩ := h
  refine ⟨ρ, fun x hx hv => ?_⟩
  rcases h x hx hv with h1 | ⟨r, h1, h2, h3, h4, h5⟩
  · exact .inl h1
  · exact .inr ⟨r, h1, h2, h3, h4, fun b hb hbA hbv => (h5 b hb hbA hbv).elim .inl (fun e => .inr (hg r b e))⟩
theorem SrcG.close {r : Nat} (hh : (D.getD r rl0).head < S.source.length) (h : SrcG D A S (fun _ b => b ∈ S.lost)) : SrcG D A (loseIf (closeF S r) (D.getD r rl0).head r) (fun _ b => b ∈ (loseIf (closeF S r) (D.getD r rl0).head r).lost) := by
  obtain ⟨ρ, h⟩ := h
  have hcl : ∀ x, x ≠ r → S.closed.getD x false = false → (S.closed.set r true).getD x false = false := fun x hx hc => by
    rw [getD_set_ne' _ _ _ _ _ (Ne.symm hx)]; exact hc
  unfold loseIf
  split
  · rename_i hs
    have hss : (S.source.set (D.getD r rl0).head (-1)).getD (D.getD r rl0).head 0 = -1 := getD_set_eq _ _ _ _ hh
    have hsn : ∀ x, x ≠ (D.getD r rl0).head → (S.source.set (D.getD r rl0).head (-1)).getD x 0 = S.source.getD x 0 := fun x hx => getD_set_ne' _ _ _ _ _ (Ne.symm hx)
    refine ⟨ρ, fun x hx hv => ?_⟩
    show ((S.source.set (D.getD r rl0).head (-1)).getD x 0 < 0 ∧ x ∈ S.lost ++ [(D.getD r rl0).head]) ∨ ∃ r' : Nat, (S.source.set (D.getD r rl0).head (-1)).getD x 0 = (r' : Int) ∧ r' < D.length ∧ (D.getD r' rl0).head = x ∧ (S.closed.set r true).getD r' false = false ∧
      ∀ b ∈ (D.getD r' rl0).all, b ∈ A → S.val.getD b 0 = 1 → (0 ≤ (S.source.set (D.getD r rl0).head (-1)).getD b 0 ∧ ρ b < ρ x) ∨ b ∈ S.lost ++ [(D.getD r rl0).head]
    by_cases hxh : x = (D.getD r rl0).head
    · left
      subst hxh
      rw [hss]
      exact ⟨by decide, by simp⟩
    · rw [hsn x hxh]
      rcases h x hx hv with h1 | ⟨r', h1, h2, h3, h4, h5⟩
      · exact .inl ⟨h1.1, List.mem_append_left _ h1.2⟩
      · refine .inr ⟨r', h1, h2, h3, hcl r' (fun e => hxh (by rw [← h3, e])) h4, fun b hb hbA hbv => ?_⟩
        by_cases hbh : b = (D.getD r rl0).head
        · right; rw [hbh]; simp
        · rw [hsn b hbh]
          exact (h5 b hb hbA hbv).elim .inl (fun e => .inr (List.mem_append_left _ e))
  · rename_i hs
    have hs : ¬ S.source.getD (D.getD r rl0).head 0 = (r : Int) := hs
    refine ⟨ρ, fun x hx hv => ?_⟩
    rcases h x hx hv with h1 | ⟨r', h1, h2, h3, h4, h5⟩
    · exact .inl h1
    · exact .inr ⟨r', h1, h2, h3, hcl r' (fun e => hs (by rw [← e, h3]; exact h1)) h4, h5⟩
theorem Frm.refl (S : SS) : Frm D n A S S := ⟨fun _ _ _ => rfl, fun _ _ _ => rfl, fun _ _ _ => rfl, fun _ _ _ => rfl, fun _ _ _ => rfl, fun _ _ _ => rfl⟩
theorem Frm.decide (h : Frm D n A S0 S) {a : Nat} (ha : a ∈ A) (t : Int) : Frm D n A S0 (decideF S a t) := by
  obtain ⟨e1, e2, e4, -⟩ := decide_src S a t
  obtain ⟨e5, e3, e6⟩ := decide_wait S a t
  refine ⟨fun x hx hxA => ?_, fun x hx hxA => by rw [e1]; exact h.s x hx hxA, fun x hx hxA => by rw [e6]; exact h.p x hx hxA, fun x hx hxA => by rw [e4]; exact h.o x hx hxA, fun r hr hrA => by rw [e3]; exact h.c r hr hrA, fun r hr hrA => by rw [e5]; exact h.w r hr hrA⟩
  rw [← h.v x hx hxA]
  unfold decideF
  split
  · exact getD_set_ne' _ _ _ _ _ (fun e => hxA (e ▸ ha))
  · rfl
theorem Frm.close (h : Frm D n A S0 S) {r : Nat} (hr : (D.getD r rl0).head ∈ A) : Frm D n A S0 (decO (loseIf (closeF S r) (D.getD r rl0).head r) (D.getD r rl0).head) := by
  have hne : ∀ x, x ∉ A → (D.getD r rl0).head ≠ x := fun x hx e => hx (e ▸ hr)
  have hcl : ∀ r', (D.getD r' rl0).head ∉ A → (S.closed.set r true).getD r' false = S.closed.getD r' false := fun r' hr' => getD_set_ne' _ _ _ _ _ (fun e => hr' (by rw [← e]; exact hr))
  unfold loseIf
  split
  · refine ⟨h.v, fun x hx hxA => ?_, h.p, fun x hx hxA => ?_, fun r' h1 h2 => ?_, h.w⟩
    · rw [← h.s x hx hxA]; exact getD_set_ne' _ _ _ _ _ (hne x hxA)
    · rw [← h.o x hx hxA]; exact getD_set_ne' _ _ _ _ _ (hne x hxA)
    · rw [← h.c r' h1 h2]; exact hcl r' h2
  · refine ⟨h.v, h.s, h.p, fun x hx hxA => ?_, fun r' h1 h2 => ?_, h.w⟩
    · rw [← h.o x hx hxA]; exact getD_set_ne' _ _ _ _ _ (hne x hxA)
    · rw [← h.c r' h1 h2]; exact hcl r' h2
theorem Frm.met (h : Frm D n A S0 S) {r : Nat} (hr : (D.getD r rl0).head ∈ A) : Frm D n A S0 (decW S r) := by
  refine ⟨h.v, h.s, h.p, h.o, h.c, fun r' h1 h2 => ?_⟩
  rw [← h.w r' h1 h2]
  exact getD_set_ne' _ _ _ _ _ (fun e => h2 (by rw [← e]; exact hr))
structure PEx (D : List Rl) (n k : Nat) (A : List Nat) (T U : Nat → Prop) (S0 : SS) (LB : Int) (S : SS) (evs : List (Nat × Bool)) : Prop where
  core : Krn D n k A T U S evs
  src : SrcG D A S (fun _ b => b ∈ S.lost)
  lost : ∀ x ∈ S.lost, x ∈ A
  sum : S.lost.length + cS S.source ≤ 3 * n
  lk0 : 0 ≤ S.looked
  lk : S.looked + ((und S.val + 1 : Nat) : Int) * 1000000 ≤ LB
  mq : muq S ≤ n
  frm : Frm D n A S0 S
variable {LB : Int}
theorem PEx.bnd (hn : n ≤ 65536) (h : PEx D n k A T U S0 LB S evs) : Bnd n D S := by
  have h1 := h.mq
  have h2 := h.sum
  unfold muq at h1
  refine ⟨by omega, by omega, fun r hr => ?_, fun a ha => ?_⟩
  · have := h.core.wb r hr; omega
  · have := h.core.ob a ha; omega
theorem PEx.pop (hok : Okay n D) (hA : ∀ x ∈ A, x < n) (h : PEx D n k A T U S0 LB S []) {q : List Nat} {a : Nat} (hq : S.queue = q ++ [a]) : a < n ∧ PEx D n k A T U S0 LB { S with queue := q } (evts D n S a) := by
  obtain ⟨h1, h2⟩ := h.core.pop hok hA hq
  refine ⟨h1, h2, h.src, h.lost, h.sum, h.lk0, h.lk, ?_, ⟨h.frm.v, h.frm.s, h.frm.p, h.frm.o, h.frm.c, h.frm.w⟩⟩
  have := h.mq
  unfold muq at this ⊢
  rw [hq] at this
  simp at this ⊢
  omega
theorem PEx.meet (tu : TU D n T U) (hok : Okay n D) (hA : ∀ x ∈ A, x < n) {r : Nat} {m : Bool} (h : PEx D n k A T U S0 LB S ((r, m) :: evs)) : PEx D n k A T U S0 LB (meetF D k S r m) evs := by
  have hr : r < D.length := (h.core.Ev _ (List.mem_cons_self ..)).1
  have hhn : (D.getD r rl0).head < n := (hok _ (getD_mem rl0 hr)).1
  have hcore := h.core.meet tu hok hA
  have hum := und_meet D k S r m
  have hmm := muq_meet D k S r m
  have key : SrcG D A (meetF D k S r m) (fun _ b => b ∈ (meetF D k S r m).lost) ∧ (∀ x ∈ (meetF D k S r m).lost, x ∈ A) ∧ (meetF D k S r m).lost.length + cS (meetF D k S r m).source ≤ 3 * n ∧ (meetF D k S r m).looked = S.looked ∧ Frm D n A S0 (meetF D k S r m) := by
    unfold meetF
    by_cases hs : S.part.getD (D.getD r rl0).head 0 ≠ (k : Int) ∨ S.closed.getD r false = true
    · rw [if_pos hs]
      exact ⟨h.src, h.lost, h.sum, rfl, h.frm⟩
    · rw [if_neg hs]
      have hp : S.part.getD (D.getD r rl0).head 0 = (k : Int) := Decidable.byContradiction (fun e => hs (.inl e))
      have hhA : (D.getD r rl0).head ∈ A := (h.core.prt _ hhn).1 hp
      by_cases hm : m = false
      · rw [if_pos hm]
        have hsrc := h.src.close (r := r) (by rw [h.core.len.nsource]; exact hhn)
        have hfr := h.frm.close hhA
        have hl : (∀ x ∈ (loseIf (closeF S r) (D.getD r rl0).head r).lost, x ∈ A) ∧ (loseIf (closeF S r) (D.getD r rl0).head r).lost.length + cS (loseIf (closeF S r) (D.getD r rl0).head r).source ≤ 3 * n ∧ (loseIf (closeF S r) (D.getD r rl0).head r).looked = S.looked := by
          unfold loseIf
          split
          · rename_i hsr
            have hsr : S.source.getD (D.getD r rl0).head 0 = (r : Int) := hsr
            refine ⟨fun x hx => ?_, ?_, rfl⟩
            · rcases List.mem_append.1 hx with hx | hx
              · exact h.lost x hx
              · have : x = (D.getD r rl0).head := by simpa using hx
                rw [this]; exact hhA
            · have h1 := cS_neg S.source (D.getD r rl0).head (by rw [h.core.len.nsource]; exact hhn) (by rw [hsr]; omega)
              have h2 := h.sum
              show (S.lost ++ [(D.getD r rl0).head]).length + cS (S.source.set (D.getD r rl0).head (-1)) ≤ 3 * n
              rw [List.length_append, List.length_singleton]
              omega
          · exact ⟨h.lost, h.sum, rfl⟩
        generalize hS1 : loseIf (closeF S r) (D.getD r rl0).head r = S1 at hsrc hfr hl ⊢
        have hsrc2 : SrcG D A (decO S1 (D.getD r rl0).head) (fun _ b => b ∈ S1.lost) := hsrc
        unfold refIf
        split
        · obtain ⟨e1, e2, e3, e4, e5⟩ := decide_src (decO S1 (D.getD r rl0).head) (D.getD r rl0).head 0
          refine ⟨?_, by rw [e2]; exact hl.1, by rw [e2, e1]; exact hl.2.1, by rw [e5]; exact hl.2.2, hfr.decide hhA 0⟩
          rw [e2]
          exact hsrc2.decide (by decide)
        · exact ⟨hsrc2, hl.1, hl.2.1, hl.2.2, hfr⟩
      · rw [if_neg hm]
        have hsrc2 : SrcG D A (decW S r) (fun _ b => b ∈ S.lost) := h.src
        unfold prvIf
        split
        · obtain ⟨e1, e2, e3, e4, e5⟩ := decide_src (decW S r) (D.getD r rl0).head 2
          refine ⟨?_, by rw [e2]; exact h.lost, by rw [e2, e1]; exact h.sum, by rw [e5]; rfl, (h.frm.met hhA).decide hhA 2⟩
          rw [e2]
          exact hsrc2.decide (by decide)
        · exact ⟨hsrc2, h.lost, h.sum, rfl, h.frm.met hhA⟩
  obtain ⟨k1, k2, k3, k4, k5⟩ := key
  refine ⟨hcore, k1, k2, k3, by rw [k4]; exact h.lk0, ?_, by rw [hmm]; exact h.mq, k5⟩
  rw [k4]
  have := h.lk
  omega
end
end Go.Proofs.Qxb6600121a
