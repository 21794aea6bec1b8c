/-
  THE PLAIN LAW OF THE COMPONENTS (1b): a round keeps the invariant, and lowers the work that is left.
-/
import Derived.Test.Qxb6600121aLaw1
namespace Go.Proofs.Qxb6600121a
open Go
section
variable {D : List Rl} {n : Nat} {t : TJ} {f : Fm} {rest : List Fm}
theorem P1.fmem (h : P1 D n t) (hc : t.calls = f :: rest) : f.a ∈ t.stack := h.sub.subset (by rw [hc]; simp)
theorem P1.rem_pos (h : P1 D n t) (hc : t.calls = f :: rest) : 1 ≤ rem D n f := by
  have := (h.fr f (by rw [hc]; simp)).1
  unfold rem
  omega
theorem mu_calls (D : List Rl) (n : Nat) (t : TJ) (hc : t.calls = f :: rest) : mu D n t = (n - t.visited) * maxK D n + (rem D n f + (rest.map (rem D n)).sum) := by
  unfold mu
  rw [hc, List.map_cons, List.sum_cons]
theorem wk_one (D : List Rl) (n a k i : Nat) (h : k < (bh D n a).length) (hi : i ≤ blen D ((bh D n a).getD k 0)) : i < wk D n a k := by
  rw [wk_step D n a k h]
  omega
theorem P1.follow (h : P1 D n t) (hc : t.calls = f :: rest) (hr : f.r < (bh D n f.a).length) (hi : f.i < blen D ((bh D n f.a).getD f.r 0)) {dep : Nat} (hd : dep < n) :
    P1 D n (t.follow f rest dep) ∧ mu D n (t.follow f rest dep) < mu D n t := by
  have hw := wk_one D n f.a f.r f.i hr (by omega)
  have h1 : P1 D n { t with calls := ⟨f.a, f.r, f.i + 1⟩ :: rest } := h.retop hc rfl ⟨by show f.i + 1 ≤ wk D n f.a f.r; omega, fun _ => hi⟩
  have hrem : rem D n ⟨f.a, f.r, f.i + 1⟩ + 1 = rem D n f := by unfold rem; simp only; omega
  have hmu := mu_calls D n t hc
  rw [TJ.follow]
  split
  · rename_i h0
    refine ⟨h1.visit hd h0 (.inr (by simp)), ?_⟩
    have hv : t.visited < n := by
      have h2 := (h1.visit hd h0 (.inr (by simp))).safe.nv
      exact h2
    rw [hmu]
    show (n - (t.visited + 1)) * maxK D n + (rem D n ⟨dep, 0, 0⟩ + (rem D n ⟨f.a, f.r, f.i + 1⟩ + (rest.map (rem D n)).sum)) < _
    have e1 : n - t.visited = (n - (t.visited + 1)) + 1 := by omega
    rw [e1, Nat.add_mul, Nat.one_mul]
    have h3 := wk_le D n dep hd
    have h4 : rem D n ⟨dep, 0, 0⟩ = wk D n dep 0 + 1 := rfl
    omega
  · split
    · rename_i _ hop
      have hdep : dep ∈ t.stack := (h.opn dep).1 hop
      refine ⟨h1.lower (h.fmem hc) ⟨dep, hdep, rfl⟩, ?_⟩
      rw [hmu]
      show (n - t.visited) * maxK D n + (rem D n ⟨f.a, f.r, f.i + 1⟩ + (rest.map (rem D n)).sum) < _
      omega
    · refine ⟨h1, ?_⟩
      rw [hmu]
      show (n - t.visited) * maxK D n + (rem D n ⟨f.a, f.r, f.i + 1⟩ + (rest.map (rem D n)).sum) < _
      omega
theorem P1.next (h : P1 D n t) (hc : t.calls = f :: rest) (hr : f.r < (bh D n f.a).length) (hi : ¬ f.i < blen D ((bh D n f.a).getD f.r 0)) :
    P1 D n { t with calls := ⟨f.a, f.r + 1, 0⟩ :: rest } ∧ mu D n { t with calls := ⟨f.a, f.r + 1, 0⟩ :: rest } < mu D n t := by
  have hf := (h.fr f (by rw [hc]; simp)).2 hr
  have hs := wk_step D n f.a f.r hr
  refine ⟨h.retop hc rfl ⟨Nat.zero_le _, fun _ => Nat.zero_le _⟩, ?_⟩
  rw [mu_calls D n t hc]
  show (n - t.visited) * maxK D n + (rem D n ⟨f.a, f.r + 1, 0⟩ + (rest.map (rem D n)).sum) < _
  have : rem D n ⟨f.a, f.r + 1, 0⟩ < rem D n f := by unfold rem; simp only; omega
  omega
theorem getLast?_append_cons (l : List Nat) (x : Nat) (m : List Nat) : (l ++ x :: m).getLast? = (x :: m).getLast? := by
  rw [List.getLast?_append]
  cases h : (x :: m).getLast? with
  | none => simp at h
  | some y => rfl
theorem mem_getLast? {l : List Nat} {x : Nat} (h : l.getLast? = some x) : x ∈ l := by
  obtain ⟨l', rfl⟩ := List.getLast?_eq_some_iff.1 h
  simp
theorem P1.close (h : P1 D n t) (hc : t.calls = f :: rest) : P1 D n (({ t with calls := rest } : TJ).close f.a) ∧ mu D n (({ t with calls := rest } : TJ).close f.a) < mu D n t := by
  have hm := h.fmem hc
  have hrp := h.rem_pos hc
  have hmu := mu_calls D n t hc
  have hsub := h.sub
  rw [hc, List.map_cons] at hsub
  have hbot := h.bot
  rw [hc, List.map_cons] at hbot
  rw [TJ.close]
  split
  · rename_i hne
    have hne : t.low.getD f.a 0 ≠ t.index.getD f.a 0 := hne
    -- then f is not at the bottom
    have hrest : rest ≠ [] := by
      intro e
      subst e
      have hb : t.stack.getLast? = some f.a := hbot
      obtain ⟨l', hl⟩ := List.getLast?_eq_some_iff.1 hb
      obtain ⟨y, hy, he⟩ := h.low2 f.a hm
      have h1 := h.low1 f.a hm
      have h2 : t.index.getD f.a 0 ≤ t.index.getD y 0 := by
        rw [hl] at hy
        rcases List.mem_append.1 hy with hy | hy
        · have := h.srt
          rw [hl, List.pairwise_append] at this
          have := this.2.2 y hy f.a (by simp)
          omega
        · have : y = f.a := by simpa using hy
          rw [this]; exact Nat.le_refl _
      omega
    refine ⟨⟨h.nI, h.nL, h.nO, h.nd, h.lt, h.vis, h.opn, (List.sublist_cons_self _ _).trans hsub, h.vnum, h.ile, h.srt, h.low1, h.low2, h.ends, h.last, ?_, fun g hg => h.fr g (by rw [hc]; exact List.mem_cons_of_mem _ hg)⟩, ?_⟩
    · show t.stack.getLast? = (rest.map Fm.a).getLast?
      rw [hbot]
      obtain ⟨c, cs, hcs⟩ := List.exists_cons_of_ne_nil hrest
      rw [hcs]
      simp [List.getLast?_cons_cons]
    · rw [hmu]
      show (n - t.visited) * maxK D n + (rest.map (rem D n)).sum < _
      omega
  · rename_i heq
    have heq : t.low.getD f.a 0 = t.index.getD f.a 0 := by
      have h2 : ¬ (t.low.getD f.a 0 ≠ t.index.getD f.a 0) := heq
      omega
    have hsp := ahead_behind f.a t.stack hm
    have hna := ahead_not f.a t.stack
    obtain ⟨pre, hpre⟩ : ∃ pre, ahead f.a t.stack = pre := ⟨_, rfl⟩
    obtain ⟨post, hpost⟩ : ∃ post, behind f.a t.stack = post := ⟨_, rfl⟩
    rw [hpre] at hna
    rw [hpre, hpost] at hsp
    have hpe := popTo_eq f.a t.stack { t with calls := rest } hm
    rw [hpre, hpost] at hpe
    show P1 D n { popTo f.a t.stack { t with calls := rest } with ends := t.ends ++ [(popTo f.a t.stack { t with calls := rest }).atoms.length] } ∧ mu D n { popTo f.a t.stack { t with calls := rest } with ends := t.ends ++ [(popTo f.a t.stack { t with calls := rest }).atoms.length] } < mu D n t
    rw [hpe]
    have hall : (t.atoms ++ (pre ++ [f.a])) ++ post = t.atoms ++ t.stack := by rw [hsp]; simp
    have hps : ∀ x ∈ post, x ∈ t.stack := fun x hx => by rw [hsp]; exact List.mem_append_right _ (List.mem_cons_of_mem _ hx)
    have hnds : t.stack.Nodup := (List.nodup_append.1 h.nd).2.1
    have hndsp := hnds
    rw [hsp, List.nodup_append] at hndsp
    have hfp : f.a ∉ post := (List.nodup_cons.1 hndsp.2.1).1
    have hpp : ∀ x ∈ post, x ∉ pre := fun x hx hx2 => hndsp.2.2 x hx2 x (List.mem_cons_of_mem _ hx) rfl
    have hsrt := h.srt
    rw [hsp, List.pairwise_append, List.pairwise_cons] at hsrt
    have hlen : (t.atoms ++ (pre ++ [f.a])).length = t.atoms.length + pre.length + 1 := by simp; omega
    refine ⟨?_, ?_⟩
    · constructor
      · exact h.nI
      · exact h.nL
      · show (offAll t.opn (pre ++ [f.a])).length = n
        rw [offAll_len]; exact h.nO
      · show ((t.atoms ++ (pre ++ [f.a])) ++ post).Nodup
        rw [hall]; exact h.nd
      · show ∀ x ∈ (t.atoms ++ (pre ++ [f.a])) ++ post, x < n
        rw [hall]; exact h.lt
      · show ∀ x, x < n → (t.index.getD x 0 ≠ 0 ↔ x ∈ (t.atoms ++ (pre ++ [f.a])) ++ post)
        rw [hall]; exact h.vis
      · intro x
        show (offAll t.opn (pre ++ [f.a])).getD x false = true ↔ x ∈ post
        rw [offAll_get, h.opn x, hsp]
        constructor
        · rintro ⟨h1, h2⟩
          rcases List.mem_append.1 h1 with h3 | h3
          · exact absurd (List.mem_append_left _ h3) h2
          · rcases List.mem_cons.1 h3 with h4 | h4
            · exact absurd (by rw [h4]; simp) h2
            · exact h4
        · intro hx
          refine ⟨List.mem_append_right _ (List.mem_cons_of_mem _ hx), fun h2 => ?_⟩
          rcases List.mem_append.1 h2 with h3 | h3
          · exact hpp x hx h3
          · have : x = f.a := by simpa using h3
            exact hfp (this ▸ hx)
      · show (rest.map Fm.a).Sublist post
        rw [hsp] at hsub
        exact sublist_split hsub hna
      · show t.visited = ((t.atoms ++ (pre ++ [f.a])) ++ post).length
        rw [hall]; exact h.vnum
      · exact h.ile
      · exact hsrt.2.1.2
      · exact fun x hx => h.low1 x (hps x hx)
      · intro x hx
        show ∃ y ∈ post, t.index.getD y 0 = t.low.getD x 0
        obtain ⟨y, hy, he⟩ := h.low2 x (hps x hx)
        refine ⟨y, ?_, he⟩
        have h1 := h.low1 x (hps x hx)
        have h2 := hsrt.2.1.1 x hx
        rw [hsp] at hy
        rcases List.mem_append.1 hy with hy | hy
        · have := hsrt.2.2 y hy x (List.mem_cons_of_mem _ hx); omega
        · rcases List.mem_cons.1 hy with rfl | hy
          · omega
          · exact hy
      · intro k hk
        show prevE (t.ends ++ [(t.atoms ++ (pre ++ [f.a])).length]) k < (t.ends ++ [(t.atoms ++ (pre ++ [f.a])).length]).getD k 0 ∧ (t.ends ++ [(t.atoms ++ (pre ++ [f.a])).length]).getD k 0 ≤ (t.atoms ++ (pre ++ [f.a])).length
        have hk' : k < t.ends.length + 1 := by have : k < (t.ends ++ [(t.atoms ++ (pre ++ [f.a])).length]).length := hk; simpa using this
        have hprev : prevE (t.ends ++ [(t.atoms ++ (pre ++ [f.a])).length]) k = prevE t.ends k := by
          cases k with
          | zero => rfl
          | succ j =>
            rw [prevE_succ, prevE_succ, List.getD_eq_getElem?_getD, List.getElem?_append_left (by omega), ← List.getD_eq_getElem?_getD]
        rw [hprev]
        by_cases hkl : k < t.ends.length
        · rw [List.getD_eq_getElem?_getD, List.getElem?_append_left hkl, ← List.getD_eq_getElem?_getD, hlen]
          have := h.ends k hkl
          omega
        · have : k = t.ends.length := by omega
          subst this
          rw [h.last, List.getD_eq_getElem?_getD, List.getElem?_append_right (Nat.le_refl _)]
          simp
      · show prevE (t.ends ++ [(t.atoms ++ (pre ++ [f.a])).length]) (t.ends ++ [(t.atoms ++ (pre ++ [f.a])).length]).length = (t.atoms ++ (pre ++ [f.a])).length
        rw [show (t.ends ++ [(t.atoms ++ (pre ++ [f.a])).length]).length = t.ends.length + 1 by simp, prevE_succ, List.getD_eq_getElem?_getD, List.getElem?_append_right (Nat.le_refl _)]
        simp
      · show post.getLast? = (rest.map Fm.a).getLast?
        rw [hsp, getLast?_append_cons] at hbot
        have hsub2 : (rest.map Fm.a).Sublist post := by rw [hsp] at hsub; exact sublist_split hsub hna
        cases hp : post with
        | nil =>
          rw [hp] at hsub2
          rw [List.sublist_nil.1 hsub2]
        | cons y ys =>
          rw [hp] at hbot
          rw [List.getLast?_cons_cons] at hbot
          cases hr : rest.map Fm.a with
          | nil =>
            rw [hr] at hbot
            have : (y :: ys).getLast? = some f.a := hbot
            exact absurd (by rw [hp]; exact mem_getLast? this) hfp
          | cons c cs =>
            rw [hr, List.getLast?_cons_cons] at hbot
            exact hbot
      · exact fun g hg => h.fr g (by rw [hc]; exact List.mem_cons_of_mem _ hg)
    · rw [hmu]
      show (n - t.visited) * maxK D n + (rest.map (rem D n)).sum < _
      omega
theorem P1.step (hok : Okay n D) (h : P1 D n t) (hne : t.calls ≠ []) : P1 D n (tstep D n t) ∧ mu D n (tstep D n t) < mu D n t := by
  obtain ⟨f, rest, hc⟩ := List.exists_cons_of_ne_nil hne
  rw [tstep, hc]
  simp only
  have hdep : ∀ r, r < (bh D n f.a).length → (∀ x ∈ (D.getD ((bh D n f.a).getD r 0) rl0).all, x < n) ∧ ∀ x ∈ (D.getD ((bh D n f.a).getD r 0) rl0).unl, x < n := by
    intro r hr
    by_cases hl : (bh D n f.a).getD r 0 < D.length
    · exact (hok _ (getD_mem rl0 hl)).2
    · rw [List.getD_eq_getElem?_getD (l := D), List.getElem?_eq_none (by omega)]
      exact ⟨fun x (hx : x ∈ ([] : List Nat)) => (List.not_mem_nil hx).elim, fun x (hx : x ∈ ([] : List Nat)) => (List.not_mem_nil hx).elim⟩
  split
  · rename_i hr
    have hr : f.r < (bh D n f.a).length := hr
    split
    · rename_i hi
      exact h.follow hc hr (show f.i < blen D ((bh D n f.a).getD f.r 0) from Nat.lt_of_lt_of_le hi (Nat.le_add_right _ _)) ((hdep f.r hr).1 _ (getD_mem 0 hi))
    · rename_i hi
      split
      · rename_i hi2
        refine h.follow hc hr (show f.i < blen D ((bh D n f.a).getD f.r 0) from hi2) ((hdep f.r hr).2 _ (getD_mem 0 ?_))
        show f.i - (D.getD ((bh D n f.a).getD f.r 0) rl0).all.length < (D.getD ((bh D n f.a).getD f.r 0) rl0).unl.length
        have hi3 : ¬ f.i < (D.getD ((bh D n f.a).getD f.r 0) rl0).all.length := hi
        have hi4 : f.i < (D.getD ((bh D n f.a).getD f.r 0) rl0).all.length + (D.getD ((bh D n f.a).getD f.r 0) rl0).unl.length := hi2
        omega
      · rename_i hi2
        exact h.next hc hr hi2
  · cases rest with
    | nil =>
      exact h.close hc
    | cons c rest2 =>
      have hcm : c.a ∈ t.stack := h.sub.subset (by rw [hc]; simp)
      have h1 := h.lower hcm (h.low2 f.a (h.fmem hc))
      have h2 := h1.close (f := f) (rest := c :: rest2) hc
      exact h2
end
end Go.Proofs.Qxb6600121a
