/-
  THE PLAIN LAW OF THE COMPONENTS (2b): a round keeps the second invariant too.
-/
import Derived.Test.Qxb6600121aLaw2
namespace Go.Proofs.Qxb6600121a
open Go
section
variable {D : List Rl} {n : Nat} {t : TJ} {f : Fm} {rest : List Fm}
theorem P2.close (hok : Okay n D) (p : P1 D n t) (h : P2 D n noHole t) (hc : t.calls = f :: rest) (hr : ¬ f.r < (bh D n f.a).length)
    (heq : t.low.getD f.a 0 = t.index.getD f.a 0) : P2 D n noHole (({ t with calls := rest } : TJ).close f.a) := by
  have hm := p.fmem hc
  have hfc : f.a ∈ cm t := by rw [cm, hc]; simp
  rw [TJ.close, if_neg (show ¬ (t.low.getD f.a 0 ≠ t.index.getD f.a 0) from fun h => h heq)]
  have hsp := ahead_behind f.a t.stack hm
  have hna := ahead_not f.a t.stack
  obtain ⟨pre, hpre⟩ : ∃ pre, ahead f.a t.stack = pre := ⟨_, rfl⟩
  obtain ⟨post, hpost⟩ : ∃ post, behind f.a t.stack = post := ⟨_, rfl⟩
  rw [hpre] at hna
  rw [hpre, hpost] at hsp
  have hpe := popTo_eq f.a t.stack { t with calls := rest } hm
  rw [hpre, hpost] at hpe
  show P2 D n noHole { popTo f.a t.stack { t with calls := rest } with ends := t.ends ++ [(popTo f.a t.stack { t with calls := rest }).atoms.length] }
  rw [hpe]
  have hall : (t.atoms ++ (pre ++ [f.a])) ++ post = t.atoms ++ t.stack := by rw [hsp]; simp
  have hsrt := p.srt
  rw [hsp, List.pairwise_append, List.pairwise_cons] at hsrt
  have hinj := pw_inj p.srt
  have hS : ∀ x, x ∈ pre ++ [f.a] ↔ x ∈ t.stack ∧ t.index.getD f.a 0 ≤ t.index.getD x 0 := by
    intro x
    constructor
    · intro hx
      rcases List.mem_append.1 hx with hx | hx
      · exact ⟨by rw [hsp]; exact List.mem_append_left _ hx, Nat.le_of_lt (hsrt.2.2 x hx f.a (List.mem_cons_self ..))⟩
      · have : x = f.a := by simpa using hx
        rw [this]; exact ⟨hm, Nat.le_refl _⟩
    · rintro ⟨hx, hle⟩
      rw [hsp] at hx
      rcases List.mem_append.1 hx with hx | hx
      · exact List.mem_append_left _ hx
      · rcases List.mem_cons.1 hx with hx | hx
        · rw [hx]; simp
        · have := hsrt.2.1.1 x hx; omega
  have hP : ∀ x, x ∈ post ↔ x ∈ t.stack ∧ t.index.getD x 0 < t.index.getD f.a 0 := by
    intro x
    constructor
    · intro hx
      exact ⟨by rw [hsp]; exact List.mem_append_right _ (List.mem_cons_of_mem _ hx), hsrt.2.1.1 x hx⟩
    · rintro ⟨hx, hlt⟩
      rw [hsp] at hx
      rcases List.mem_append.1 hx with hx | hx
      · have := hsrt.2.2 x hx f.a (List.mem_cons_self ..); omega
      · rcases List.mem_cons.1 hx with hx | hx
        · rw [hx] at hlt; omega
        · exact hx
  have htop := p.tople hc
  have hScm : ∀ x ∈ pre ++ [f.a], x ∈ cm t → x = f.a := fun x hx hxc => hinj x ((hS x).1 hx).1 f.a hm (Nat.le_antisymm (htop x hxc) ((hS x).1 hx).2)
  -- the owner of what is popped is f
  have hown : ∀ x ∈ pre ++ [f.a], ∀ R : Nat → Prop, Own t x R → R f.a := by
    rintro x hx R ⟨c, k1, k2, k3, k4⟩
    have h1 := k4 f.a hfc ((hS x).1 hx).2
    have h2 := htop c k1
    have : c = f.a := hinj c (p.cms k1) f.a hm (by omega)
    rw [← this]; exact k3
  -- steps out of what is popped
  have hK : ∀ x ∈ pre ++ [f.a], ∀ d, Ed D x d → d ∈ t.atoms ++ (pre ++ [f.a]) := by
    intro x hx d hd
    have hxs := ((hS x).1 hx).1
    have hdone : Done D n t x d := by
      by_cases hxf : x = f.a
      · subst hxf; exact .inr ⟨f, by rw [hc]; simp, rfl, pr_full hok hr hd⟩
      · exact .inl ⟨fun hxc => hxf (hScm x hx hxc), hd⟩
    rcases h.good x (List.mem_append_right _ hxs) d hdone with h1 | ⟨h1, h2⟩
    · exact h1.elim
    · rcases List.mem_append.1 h1 with h3 | h3
      · exact List.mem_append_left _ h3
      · have := hown x hx _ (h2 hxs h3)
        exact List.mem_append_right _ ((hS d).2 ⟨h3, by omega⟩)
  have ecm : cm t = f.a :: rest.map Fm.a := by rw [cm, hc]; rfl
  have own' : ∀ x ∈ post, ∀ (R : Nat → Prop), Own t x R → ∃ c ∈ rest.map Fm.a, t.index.getD c 0 ≤ t.index.getD x 0 ∧ R c ∧ ∀ c' ∈ rest.map Fm.a, t.index.getD c' 0 ≤ t.index.getD x 0 → t.index.getD c' 0 ≤ t.index.getD c 0 := by
    rintro x hx R ⟨c, k1, k2, k3, k4⟩
    have := ((hP x).1 hx).2
    rw [ecm] at k1 k4
    rcases List.mem_cons.1 k1 with k1 | k1
    · rw [k1] at k2; omega
    · exact ⟨c, k1, k2, k3, fun c' hc' => k4 c' (List.mem_cons_of_mem _ hc')⟩
  have hlen : (t.atoms ++ (pre ++ [f.a])).length = t.atoms.length + pre.length + 1 := by simp; omega
  have hends : ∀ k, k < t.ends.length → (t.ends ++ [(t.atoms ++ (pre ++ [f.a])).length]).getD k 0 = t.ends.getD k 0 := fun k hk => by
    rw [List.getD_eq_getElem?_getD, List.getElem?_append_left hk, ← List.getD_eq_getElem?_getD]
  have hendl : (t.ends ++ [(t.atoms ++ (pre ++ [f.a])).length]).getD t.ends.length 0 = (t.atoms ++ (pre ++ [f.a])).length := by
    rw [List.getD_eq_getElem?_getD, List.getElem?_append_right (Nat.le_refl _)]; simp
  have hprev : ∀ k, k ≤ t.ends.length → prevE (t.ends ++ [(t.atoms ++ (pre ++ [f.a])).length]) k = prevE t.ends k := by
    intro k hk
    cases k with
    | zero => rfl
    | succ j => rw [prevE_succ, prevE_succ, hends j (by omega)]
  have htake : ∀ k, k < t.ends.length → (t.atoms ++ (pre ++ [f.a])).take (t.ends.getD k 0) = t.atoms.take (t.ends.getD k 0) := fun k hk => by
    rw [List.take_append_of_le_length (p.ends k hk).2]
  have hkk : ∀ k, k < (t.ends ++ [(t.atoms ++ (pre ++ [f.a])).length]).length → k < t.ends.length ∨ k = t.ends.length := fun k hk => by
    rw [List.length_append, List.length_singleton] at hk; omega
  refine ⟨?_, ?_, ?_, ?_, ?_, ?_, ?_, ?_⟩
  · show ∀ x ∈ (t.atoms ++ (pre ++ [f.a])) ++ post, ∀ d, Done D n { t with calls := rest, stack := post, opn := offAll t.opn (pre ++ [f.a]), atoms := t.atoms ++ (pre ++ [f.a]), ends := t.ends ++ [(t.atoms ++ (pre ++ [f.a])).length] } x d → False ∨ (d ∈ (t.atoms ++ (pre ++ [f.a])) ++ post ∧ (x ∈ post → d ∈ post → _))
    rw [hall]
    intro x hx d hd
    rcases h.good x hx d (done_rest hok hc hr rfl hd) with h1 | ⟨h1, h2⟩
    · exact h1.elim
    · exact .inr ⟨h1, fun h3 h4 => own' x h3 _ (h2 ((hP x).1 h3).1 ((hP d).1 h4).1)⟩
  · intro x hx
    exact own' x hx _ (h.own x ((hP x).1 hx).1)
  · intro x hx c hcm hlt
    have hx : x ∈ post := hx
    have hxx := (hP x).1 hx
    have hcm : c ∈ rest.map Fm.a := hcm
    have hlt : t.index.getD c 0 < t.index.getD x 0 := hlt
    obtain ⟨q, k1, k2, k3, k4⟩ := h.par x hxx.1 c (by rw [ecm]; exact List.mem_cons_of_mem _ hcm) hlt
    exact ⟨q, (hP q).2 ⟨k1, by omega⟩, k2, k3, fun c' hc' h1 => k4 c' (by rw [ecm]; exact List.mem_cons_of_mem _ hc') h1⟩
  · have := h.adj
    rw [hc] at this
    show Adj D rest
    cases rest with
    | nil => trivial
    | cons g r => exact this.2
  · intro x hx
    have hx : x ∈ post := hx
    have hxx := (hP x).1 hx
    obtain ⟨y, hy, h1, h2⟩ := h.e1 x hxx.1
    have hl1 := p.low1 x hxx.1
    have hyp : y ∈ post := (hP y).2 ⟨hy, by omega⟩
    refine ⟨y, hyp, h1, ?_⟩
    show Rch (Ed D) (fun z => z ∈ post ∧ t.low.getD x 0 ≤ t.index.getD z 0) x y
    intro T hT hs
    have := h2 (fun z => T z ∨ z ∈ pre ++ [f.a]) (.inl hT) (by
      rintro z z' hz he ⟨hz1, hz2⟩
      rcases hz with hz | hz
      · by_cases hi : t.index.getD f.a 0 ≤ t.index.getD z' 0
        · exact .inr ((hS z').2 ⟨hz1, hi⟩)
        · exact .inl (hs z z' hz he ⟨(hP z').2 ⟨hz1, by omega⟩, hz2⟩)
      · rcases List.mem_append.1 (hK z hz z' he) with h3 | h3
        · exact absurd rfl ((List.nodup_append.1 p.nd).2.2 z' h3 z' hz1)
        · exact .inr h3)
    rcases this with h3 | h3
    · exact h3
    · have := ((hS y).1 h3).2
      have := ((hP y).1 hyp).2
      omega
  · intro x hx hxc
    have hx : x ∈ post := hx
    have hxx := (hP x).1 hx
    refine h.e2 x hxx.1 (fun hxm => ?_)
    rw [ecm] at hxm
    rcases List.mem_cons.1 hxm with hxm | hxm
    · rw [hxm] at hxx; omega
    · exact hxc hxm
  · intro k hk
    rcases hkk k hk with hk | rfl
    · show ∀ x ∈ (t.atoms ++ (pre ++ [f.a])).take ((t.ends ++ [(t.atoms ++ (pre ++ [f.a])).length]).getD k 0), ∀ d, Ed D x d → d ∈ (t.atoms ++ (pre ++ [f.a])).take ((t.ends ++ [(t.atoms ++ (pre ++ [f.a])).length]).getD k 0)
      rw [hends k hk, htake k hk]
      exact h.cl k hk
    · show ∀ x ∈ (t.atoms ++ (pre ++ [f.a])).take ((t.ends ++ [(t.atoms ++ (pre ++ [f.a])).length]).getD t.ends.length 0), ∀ d, Ed D x d → d ∈ (t.atoms ++ (pre ++ [f.a])).take ((t.ends ++ [(t.atoms ++ (pre ++ [f.a])).length]).getD t.ends.length 0)
      rw [hendl, List.take_length]
      intro x hx d hd
      rcases List.mem_append.1 hx with hx | hx
      · -- in an earlier one
        have hlast := p.last
        cases hel : t.ends.length with
        | zero =>
          rw [hel] at hlast
          have h0 : (0 : Nat) = t.atoms.length := hlast
          rw [List.length_eq_zero_iff.1 h0.symm] at hx
          cases hx
        | succ j =>
          rw [hel, prevE_succ] at hlast
          have h1 := h.cl j (by omega)
          rw [hlast, List.take_length] at h1
          exact List.mem_append_left _ (h1 x hx d hd)
      · exact hK x hx d hd
  · intro k hk
    rcases hkk k hk with hk | rfl
    · have : seg { t with calls := rest, stack := post, opn := offAll t.opn (pre ++ [f.a]), atoms := t.atoms ++ (pre ++ [f.a]), ends := t.ends ++ [(t.atoms ++ (pre ++ [f.a])).length] } k = seg t k := by
        show ((t.atoms ++ (pre ++ [f.a])).take ((t.ends ++ [(t.atoms ++ (pre ++ [f.a])).length]).getD k 0)).drop (prevE (t.ends ++ [(t.atoms ++ (pre ++ [f.a])).length]) k) = _
        rw [hends k hk, htake k hk, hprev k (by omega)]
        rfl
      show ∀ x ∈ seg { t with calls := rest, stack := post, opn := offAll t.opn (pre ++ [f.a]), atoms := t.atoms ++ (pre ++ [f.a]), ends := t.ends ++ [(t.atoms ++ (pre ++ [f.a])).length] } k, ∀ y ∈ seg { t with calls := rest, stack := post, opn := offAll t.opn (pre ++ [f.a]), atoms := t.atoms ++ (pre ++ [f.a]), ends := t.ends ++ [(t.atoms ++ (pre ++ [f.a])).length] } k, Rch (Ed D) (fun z => z ∈ seg { t with calls := rest, stack := post, opn := offAll t.opn (pre ++ [f.a]), atoms := t.atoms ++ (pre ++ [f.a]), ends := t.ends ++ [(t.atoms ++ (pre ++ [f.a])).length] } k) x y
      rw [this]
      exact h.sc k hk
    · have : seg { t with calls := rest, stack := post, opn := offAll t.opn (pre ++ [f.a]), atoms := t.atoms ++ (pre ++ [f.a]), ends := t.ends ++ [(t.atoms ++ (pre ++ [f.a])).length] } t.ends.length = pre ++ [f.a] := by
        show ((t.atoms ++ (pre ++ [f.a])).take ((t.ends ++ [(t.atoms ++ (pre ++ [f.a])).length]).getD t.ends.length 0)).drop (prevE (t.ends ++ [(t.atoms ++ (pre ++ [f.a])).length]) t.ends.length) = _
        rw [hendl, List.take_length, hprev _ (Nat.le_refl _), p.last, List.drop_left]
      show ∀ x ∈ seg { t with calls := rest, stack := post, opn := offAll t.opn (pre ++ [f.a]), atoms := t.atoms ++ (pre ++ [f.a]), ends := t.ends ++ [(t.atoms ++ (pre ++ [f.a])).length] } t.ends.length, ∀ y ∈ seg { t with calls := rest, stack := post, opn := offAll t.opn (pre ++ [f.a]), atoms := t.atoms ++ (pre ++ [f.a]), ends := t.ends ++ [(t.atoms ++ (pre ++ [f.a])).length] } t.ends.length, Rch (Ed D) (fun z => z ∈ seg { t with calls := rest, stack := post, opn := offAll t.opn (pre ++ [f.a]), atoms := t.atoms ++ (pre ++ [f.a]), ends := t.ends ++ [(t.atoms ++ (pre ++ [f.a])).length] } t.ends.length) x y
      rw [this]
      have hto : ∀ N x, x ∈ pre ++ [f.a] → t.index.getD x 0 ≤ N → Rch (Ed D) (fun z => z ∈ pre ++ [f.a]) x f.a := by
        intro N
        induction N with
        | zero =>
          intro x hx hN
          have hxx := (hS x).1 hx
          have : x = f.a := hinj x hxx.1 f.a hm (by omega)
          rw [this]; exact Rch.refl _
        | succ N ih =>
          intro x hx hN
          by_cases hxf : x = f.a
          · rw [hxf]; exact Rch.refl _
          · have hxx := (hS x).1 hx
            have hl := h.e2 x hxx.1 (fun hxc => hxf (hScm x hx hxc))
            have ho := hown x hx _ (h.own x hxx.1)
            obtain ⟨y, hy, h1, h2⟩ := h.e1 x hxx.1
            refine Rch.trans (h2.mono fun z hz => (hS z).2 ⟨hz.1, by omega⟩) (ih y ((hS y).2 ⟨hy, by omega⟩) (by omega))
      have hfrom : ∀ N y, y ∈ pre ++ [f.a] → t.index.getD y 0 ≤ N → Rch (Ed D) (fun z => z ∈ pre ++ [f.a]) f.a y := by
        intro N
        induction N with
        | zero =>
          intro x hx hN
          have hxx := (hS x).1 hx
          have : x = f.a := hinj x hxx.1 f.a hm (by omega)
          rw [this]; exact Rch.refl _
        | succ N ih =>
          intro y hy hN
          by_cases hyf : y = f.a
          · rw [hyf]; exact Rch.refl _
          · have hyy := (hS y).1 hy
            have hlt : t.index.getD f.a 0 < t.index.getD y 0 := Nat.lt_of_le_of_ne hyy.2 (fun e => hyf (hinj y hyy.1 f.a hm e.symm))
            obtain ⟨q, k1, k2, k3, k4⟩ := h.par y hyy.1 f.a hfc hlt
            have hq : q ∈ pre ++ [f.a] := (hS q).2 ⟨k1, k4 f.a hfc hlt⟩
            exact Rch.trans (ih q hq (by omega)) (Rch.step k3 hy)
      intro x hx y hy
      exact (hto _ x hx (Nat.le_refl _)).trans (hfrom _ y hy (Nat.le_refl _))
theorem body_lt (hok : Okay n D) (r : Nat) : ∀ d ∈ body D r, d < n := by
  intro d hd
  by_cases hl : r < D.length
  · have := (hok _ (getD_mem rl0 hl)).2
    rcases List.mem_append.1 hd with h | h
    · exact this.1 d h
    · exact this.2 d h
  · unfold body at hd
    rw [List.getD_eq_getElem?_getD (l := D), List.getElem?_eq_none (by omega)] at hd
    cases hd
theorem P2.follow (hok : Okay n D) (p : P1 D n t) (h : P2 D n noHole t) (hc : t.calls = f :: rest) (hr : f.r < (bh D n f.a).length) (hi : f.i < blen D ((bh D n f.a).getD f.r 0)) :
    P2 D n noHole (t.follow f rest ((body D ((bh D n f.a).getD f.r 0)).getD f.i 0)) := by
  have hed := ed_of (f := f) hok hr hi
  obtain ⟨dep, hdep⟩ : ∃ dep, (body D ((bh D n f.a).getD f.r 0)).getD f.i 0 = dep := ⟨_, rfl⟩
  have hd : dep < n := by rw [← hdep]; exact body_lt hok _ _ (getD_mem 0 (by rw [body_len]; exact hi))
  have hw := wk_one D n f.a f.r f.i hr (by omega)
  have p1 : P1 D n { t with calls := ⟨f.a, f.r, f.i + 1⟩ :: rest } := p.retop hc rfl ⟨by show f.i + 1 ≤ wk D n f.a f.r; omega, fun _ => hi⟩
  have h1 : P2 D n (fun x d => x = f.a ∧ d = dep) { t with calls := ⟨f.a, f.r, f.i + 1⟩ :: rest } := h.retop hc rfl (fun d hp => by
    rcases pr_step hp with h2 | h2
    · exact .inl h2
    · exact .inr ⟨rfl, by rw [h2, hdep]⟩)
  rw [hdep] at hed ⊢
  have hm := p.fmem hc
  rw [TJ.follow]
  split
  · rename_i h0
    have p2 := p1.visit hd h0 (.inr (by simp))
    have h2 := h1.visit p1 hd h0 (fun g rest' e => by
      have e : (⟨f.a, f.r, f.i + 1⟩ : Fm) :: rest = g :: rest' := e
      have : g = ⟨f.a, f.r, f.i + 1⟩ := (List.cons.inj e).1.symm
      rw [this]; exact hed)
    refine h2.fill ?_
    rintro x hx d ⟨rfl, rfl⟩
    refine ⟨List.mem_append_right _ (List.mem_cons_self ..), fun _ _ => ⟨f.a, List.mem_cons_of_mem _ (by simp), Nat.le_refl _, ?_, fun c' _ h3 => h3⟩⟩
    have h3 := p2.low1 f.a (List.mem_cons_of_mem _ hm)
    have h4 := p2.srt
    have h4 : (d :: t.stack).Pairwise (fun x y => (({ t with calls := ⟨f.a, f.r, f.i + 1⟩ :: rest } : TJ).visit d).index.getD y 0 < (({ t with calls := ⟨f.a, f.r, f.i + 1⟩ :: rest } : TJ).visit d).index.getD x 0) := h4
    rw [List.pairwise_cons] at h4
    exact Nat.le_of_lt (Nat.lt_of_le_of_lt h3 (h4.1 f.a hm))
  · rename_i h0
    split
    · rename_i hop
      have hds : dep ∈ t.stack := (p.opn dep).1 hop
      have h2 := h1.lower p1 (x := f.a) (v := t.index.getD dep 0) (by simp [cm]) ⟨dep, hds, rfl, Rch.step hed ⟨hds, Nat.le_refl _⟩⟩
      refine h2.fill ?_
      rintro x hx d ⟨rfl, rfl⟩
      refine ⟨List.mem_append_right _ hds, fun _ _ => ⟨f.a, by simp [cm], Nat.le_refl _, ?_, fun c' _ h3 => h3⟩⟩
      show (t.low.set f.a (if t.index.getD d 0 < t.low.getD f.a 0 then t.index.getD d 0 else t.low.getD f.a 0)).getD f.a 0 ≤ t.index.getD d 0
      rw [getD_set_eq _ _ _ _ (by rw [p.nL]; exact p.lt _ (List.mem_append_right _ hm))]
      split <;> omega
    · rename_i hop
      refine h1.fill ?_
      rintro x hx d ⟨rfl, rfl⟩
      exact ⟨(p.vis d hd).1 h0, fun _ h3 => absurd ((p.opn d).2 h3) hop⟩
theorem body_all {r i : Nat} (h : i < (D.getD r rl0).all.length) : (D.getD r rl0).all.getD i 0 = (body D r).getD i 0 := by
  unfold body
  generalize D.getD r rl0 = R at h ⊢
  rw [List.getD_eq_getElem?_getD, List.getD_eq_getElem?_getD, List.getElem?_append_left h]
theorem body_unl {r i : Nat} (h : ¬ i < (D.getD r rl0).all.length) : (D.getD r rl0).unl.getD (i - (D.getD r rl0).all.length) 0 = (body D r).getD i 0 := by
  unfold body
  generalize D.getD r rl0 = R at h ⊢
  rw [List.getD_eq_getElem?_getD, List.getD_eq_getElem?_getD, List.getElem?_append_right (by omega)]
theorem P2.stepC (hok : Okay n D) (p : P1 D n t) (h : P2 D n noHole t) (hne : t.calls ≠ []) : P2 D n noHole (tstep D n t) := by
  obtain ⟨f, rest, hc⟩ := List.exists_cons_of_ne_nil hne
  rw [tstep, hc]
  simp only
  split
  · rename_i hr
    have hr : f.r < (bh D n f.a).length := hr
    split
    · rename_i hi
      have hi : f.i < (D.getD ((bh D n f.a).getD f.r 0) rl0).all.length := hi
      show P2 D n noHole (t.follow f rest ((D.getD ((bh D n f.a).getD f.r 0) rl0).all.getD f.i 0))
      rw [body_all hi]
      exact h.follow hok p hc hr (show f.i < blen D ((bh D n f.a).getD f.r 0) from Nat.lt_of_lt_of_le hi (Nat.le_add_right _ _))
    · rename_i hi
      have hi : ¬ f.i < (D.getD ((bh D n f.a).getD f.r 0) rl0).all.length := hi
      split
      · rename_i hi2
        show P2 D n noHole (t.follow f rest ((D.getD ((bh D n f.a).getD f.r 0) rl0).unl.getD (f.i - (D.getD ((bh D n f.a).getD f.r 0) rl0).all.length) 0))
        rw [body_unl hi]
        exact h.follow hok p hc hr (show f.i < blen D ((bh D n f.a).getD f.r 0) from hi2)
      · rename_i hi2
        exact h.retop hc rfl (fun d hp => .inl (pr_next hi2 hp))
  · rename_i hr
    have hr : ¬ f.r < (bh D n f.a).length := hr
    cases rest with
    | nil =>
      by_cases heq : t.low.getD f.a 0 = t.index.getD f.a 0
      · exact h.close hok p hc hr heq
      · -- f lies at the bottom
        exfalso
        have hm := p.fmem hc
        have hb := p.bot
        rw [hc] at hb
        have hb : t.stack.getLast? = some f.a := hb
        obtain ⟨l', hl⟩ := List.getLast?_eq_some_iff.1 hb
        obtain ⟨y, hy, he⟩ := p.low2 f.a hm
        have h1 := p.low1 f.a hm
        have h2 : t.index.getD f.a 0 ≤ t.index.getD y 0 := by
          rw [hl] at hy
          rcases List.mem_append.1 hy with hy | hy
          · have := p.srt
            rw [hl, List.pairwise_append] at this
            have := this.2.2 y hy f.a (by simp)
            omega
          · have : y = f.a := by simpa using hy
            rw [this]; exact Nat.le_refl _
        omega
    | cons c rest2 =>
      have hcm : c.a ∈ t.stack := p.sub.subset (by rw [hc]; simp)
      have hcc : c.a ∈ cm t := by rw [cm, hc]; simp
      have hfm := p.fmem hc
      have htop := p.topm hc c.a (by simp)
      have hnec : c.a ≠ f.a := fun e => by rw [e] at htop; omega
      have p1 := p.lower hcm (p.low2 f.a hfm)
      have hadj := h.adj
      rw [hc] at hadj
      have h1 : P2 D n noHole { t with low := t.low.set c.a (if t.low.getD f.a 0 < t.low.getD c.a 0 then t.low.getD f.a 0 else t.low.getD c.a 0) } := by
        refine h.lower p hcc ?_
        obtain ⟨y, hy, k1, k2⟩ := h.e1 f.a hfm
        exact ⟨y, hy, k1, Rch.trans (Rch.step hadj.1 ⟨hfm, p.low1 f.a hfm⟩) k2⟩
      have hlf : (t.low.set c.a (if t.low.getD f.a 0 < t.low.getD c.a 0 then t.low.getD f.a 0 else t.low.getD c.a 0)).getD f.a 0 = t.low.getD f.a 0 := getD_set_ne' _ _ _ _ _ hnec
      have hlc : (t.low.set c.a (if t.low.getD f.a 0 < t.low.getD c.a 0 then t.low.getD f.a 0 else t.low.getD c.a 0)).getD c.a 0 = if t.low.getD f.a 0 < t.low.getD c.a 0 then t.low.getD f.a 0 else t.low.getD c.a 0 := getD_set_eq _ _ _ _ (by rw [p.nL]; exact p.lt _ (List.mem_append_right _ hcm))
      show P2 D n noHole (({ t with low := t.low.set c.a (if t.low.getD f.a 0 < t.low.getD c.a 0 then t.low.getD f.a 0 else t.low.getD c.a 0), calls := c :: rest2 } : TJ).close f.a)
      by_cases heq : t.low.getD f.a 0 = t.index.getD f.a 0
      · exact h1.close hok p1 (f := f) (rest := c :: rest2) hc hr (by show (t.low.set c.a _).getD f.a 0 = t.index.getD f.a 0; rw [hlf]; exact heq)
      · have h2 := h1.pop hok p1 (f := f) (c0 := c) (rest2 := rest2) hc hr (by show (t.low.set c.a _).getD c.a 0 ≤ (t.low.set c.a _).getD f.a 0; rw [hlf, hlc]; split <;> omega) (by show (t.low.set c.a _).getD f.a 0 ≠ t.index.getD f.a 0; rw [hlf]; exact heq)
        rw [TJ.close, if_pos (by show (t.low.set c.a _).getD f.a 0 ≠ t.index.getD f.a 0; rw [hlf]; exact heq)]
        exact h2
end
end Go.Proofs.Qxb6600121a
