/-
  THE PLAIN LAW OF THE COMPONENTS (2): a component follows those that it depends on, and is strongly connected. No Go in sight.
-/
import Derived.Test.Qxb6600121aLaw1b
namespace Go.Proofs.Qxb6600121a
open Go
/-- 'y' lies in each set that holds 'x' and is closed under steps into 'Q'. -/
def Rch (E : Nat → Nat → Prop) (Q : Nat → Prop) (x y : Nat) : Prop := ∀ T : Nat → Prop, T x → (∀ z z', T z → E z z' → Q z' → T z') → T y
theorem Rch.refl {E : Nat → Nat → Prop} {Q : Nat → Prop} (x : Nat) : Rch E Q x x := fun _ h _ => h
theorem Rch.trans {E : Nat → Nat → Prop} {Q : Nat → Prop} {x y z : Nat} (h1 : Rch E Q x y) (h2 : Rch E Q y z) : Rch E Q x z := fun T h hs => h2 T (h1 T h hs) hs
theorem Rch.mono {E : Nat → Nat → Prop} {Q Q' : Nat → Prop} {x y : Nat} (h : Rch E Q x y) (hq : ∀ z, Q z → Q' z) : Rch E Q' x y := fun T h0 hs => h T h0 (fun z z' a b c => hs z z' a b (hq _ c))
theorem Rch.step {E : Nat → Nat → Prop} {Q : Nat → Prop} {x y : Nat} (he : E x y) (hq : Q y) : Rch E Q x y := fun _ h hs => hs x y h he hq

theorem mem_idxH (D : List Rl) (n k : Nat) (hk : k ≤ D.length) (hok : Okay n D) (a r : Nat) : r ∈ (idxH D n k).getD a [] ↔ r < k ∧ (D.getD r rl0).head = a := by
  induction k with
  | zero =>
    rw [idxH, getD_rep]
    simp
  | succ k ih =>
    have hh : (D.getD k rl0).head < n := (hok _ (getD_mem rl0 (show k < D.length by omega))).1
    rw [idxH, addTo_getD, idxH_len]
    split
    · rename_i h
      rw [List.mem_append, ih (by omega)]
      constructor
      · rintro (⟨h1, h2⟩ | h1)
        · exact ⟨by omega, h2⟩
        · have : r = k := by simpa using h1
          subst this
          exact ⟨by omega, h.1⟩
      · rintro ⟨h1, h2⟩
        by_cases hr : r = k
        · right; simp [hr]
        · left; exact ⟨by omega, h2⟩
    · rename_i h
      rw [ih (by omega)]
      constructor
      · rintro ⟨h1, h2⟩; exact ⟨by omega, h2⟩
      · rintro ⟨h1, h2⟩
        refine ⟨?_, h2⟩
        by_cases hr : r = k
        · subst hr; exact absurd ⟨h2, hh⟩ h
        · omega
def body (D : List Rl) (r : Nat) : List Nat := (D.getD r rl0).all ++ (D.getD r rl0).unl
theorem body_len (D : List Rl) (r : Nat) : (body D r).length = blen D r := by simp [body, blen]
def Ed (D : List Rl) (x d : Nat) : Prop := ∃ r, r < D.length ∧ (D.getD r rl0).head = x ∧ d ∈ body D r
def pr (D : List Rl) (n : Nat) (f : Fm) (d : Nat) : Prop :=
  ∃ j, j < (bh D n f.a).length ∧ ∃ m, m < blen D ((bh D n f.a).getD j 0) ∧ (j < f.r ∨ (j = f.r ∧ m < f.i)) ∧ d = (body D ((bh D n f.a).getD j 0)).getD m 0
section
variable {D : List Rl} {n : Nat} {t : TJ} {f : Fm} {rest : List Fm}
theorem pr_zero {a d : Nat} : ¬ pr D n ⟨a, 0, 0⟩ d := by
  rintro ⟨j, hj, m, hm, h1, h2⟩
  have h1 : j < 0 ∨ (j = 0 ∧ m < 0) := h1
  omega
theorem pr_step {d : Nat} (h : pr D n ⟨f.a, f.r, f.i + 1⟩ d) : pr D n f d ∨ d = (body D ((bh D n f.a).getD f.r 0)).getD f.i 0 := by
  obtain ⟨j, hj, m, hm, h1, h2⟩ := h
  have h1 : j < f.r ∨ (j = f.r ∧ m < f.i + 1) := h1
  by_cases h3 : j = f.r ∧ m = f.i
  · right; obtain ⟨rfl, rfl⟩ := h3; exact h2
  · left; exact ⟨j, hj, m, hm, by omega, h2⟩
theorem pr_next {d : Nat} (hi : ¬ f.i < blen D ((bh D n f.a).getD f.r 0)) (h : pr D n ⟨f.a, f.r + 1, 0⟩ d) : pr D n f d := by
  obtain ⟨j, hj, m, hm, h1, h2⟩ := h
  have h1 : j < f.r + 1 ∨ (j = f.r + 1 ∧ m < 0) := h1
  have hm : m < blen D ((bh D n f.a).getD j 0) := hm
  refine ⟨j, hj, m, hm, ?_, h2⟩
  by_cases h3 : j = f.r
  · subst h3; right; exact ⟨rfl, by omega⟩
  · left; omega
theorem pr_full (hok : Okay n D) {d : Nat} (hr : ¬ f.r < (bh D n f.a).length) (h : Ed D f.a d) : pr D n f d := by
  obtain ⟨r, h1, h2, h3⟩ := h
  have hm : r ∈ bh D n f.a := (mem_idxH D n D.length (Nat.le_refl _) hok f.a r).2 ⟨h1, h2⟩
  obtain ⟨j, hj, hjr⟩ := List.mem_iff_getElem.1 hm
  obtain ⟨m, hm2, hmd⟩ := List.mem_iff_getElem.1 h3
  have e : (bh D n f.a).getD j 0 = r := by rw [List.getD_eq_getElem?_getD, List.getElem?_eq_getElem hj, hjr]; rfl
  refine ⟨j, hj, m, ?_, .inl (by omega), ?_⟩
  · rw [e, ← body_len]; exact hm2
  · rw [e, List.getD_eq_getElem?_getD, List.getElem?_eq_getElem hm2, hmd]; rfl
theorem ed_of (hok : Okay n D) (hr : f.r < (bh D n f.a).length) (hi : f.i < blen D ((bh D n f.a).getD f.r 0)) : Ed D f.a ((body D ((bh D n f.a).getD f.r 0)).getD f.i 0) := by
  have hm := (mem_idxH D n D.length (Nat.le_refl _) hok f.a _).1 (getD_mem 0 hr)
  exact ⟨_, hm.1, hm.2, getD_mem 0 (by rw [body_len]; exact hi)⟩
def cm (t : TJ) : List Nat := t.calls.map Fm.a
def Own (t : TJ) (x : Nat) (R : Nat → Prop) : Prop :=
  ∃ c ∈ cm t, t.index.getD c 0 ≤ t.index.getD x 0 ∧ R c ∧ ∀ c' ∈ cm t, t.index.getD c' 0 ≤ t.index.getD x 0 → t.index.getD c' 0 ≤ t.index.getD c 0
def Done (D : List Rl) (n : Nat) (t : TJ) (x d : Nat) : Prop := (x ∉ cm t ∧ Ed D x d) ∨ ∃ f ∈ t.calls, f.a = x ∧ pr D n f d
def Adj (D : List Rl) : List Fm → Prop
  | f :: g :: r => Ed D g.a f.a ∧ Adj D (g :: r)
  | _ => True
def seg (t : TJ) (k : Nat) : List Nat := (t.atoms.take (t.ends.getD k 0)).drop (prevE t.ends k)
structure P2 (D : List Rl) (n : Nat) (H : Nat → Nat → Prop) (t : TJ) : Prop where
  good : ∀ x ∈ t.atoms ++ t.stack, ∀ d, Done D n t x d → H x d ∨ (d ∈ t.atoms ++ t.stack ∧ (x ∈ t.stack → d ∈ t.stack → Own t x (fun c => t.low.getD c 0 ≤ t.index.getD d 0)))
  own : ∀ x ∈ t.stack, Own t x (fun c => t.low.getD c 0 ≤ t.low.getD x 0)
  par : ∀ x ∈ t.stack, ∀ c ∈ cm t, t.index.getD c 0 < t.index.getD x 0 → ∃ p ∈ t.stack, t.index.getD p 0 < t.index.getD x 0 ∧ Ed D p x ∧ ∀ c' ∈ cm t, t.index.getD c' 0 < t.index.getD x 0 → t.index.getD c' 0 ≤ t.index.getD p 0
  adj : Adj D t.calls
  e1 : ∀ x ∈ t.stack, ∃ y ∈ t.stack, t.index.getD y 0 = t.low.getD x 0 ∧ Rch (Ed D) (fun z => z ∈ t.stack ∧ t.low.getD x 0 ≤ t.index.getD z 0) x y
  e2 : ∀ x ∈ t.stack, x ∉ cm t → t.low.getD x 0 < t.index.getD x 0
  cl : ∀ k, k < t.ends.length → ∀ x ∈ t.atoms.take (t.ends.getD k 0), ∀ d, Ed D x d → d ∈ t.atoms.take (t.ends.getD k 0)
  sc : ∀ k, k < t.ends.length → ∀ x ∈ seg t k, ∀ y ∈ seg t k, Rch (Ed D) (fun z => z ∈ seg t k) x y
def noHole : Nat → Nat → Prop := fun _ _ => False
theorem p2_start (D : List Rl) (n : Nat) : P2 D n noHole (ts0 n) := by
  refine ⟨?_, ?_, ?_, trivial, ?_, ?_, ?_, ?_⟩
  · intro x hx; cases hx
  · intro x hx; cases hx
  · intro x hx; cases hx
  · intro x hx; cases hx
  · intro x hx; cases hx
  · intro k hk; exact absurd hk (Nat.not_lt_zero _)
  · intro k hk; exact absurd hk (Nat.not_lt_zero _)
theorem pw_inj {l : List Nat} {g : Nat → Nat} (h : l.Pairwise (fun x y => g y < g x)) : ∀ x ∈ l, ∀ y ∈ l, g x = g y → x = y := by
  induction l with
  | nil => intro x hx; cases hx
  | cons a l ih =>
    rw [List.pairwise_cons] at h
    intro x hx y hy e
    rcases List.mem_cons.1 hx with hx1 | hx1
    · rcases List.mem_cons.1 hy with hy1 | hy1
      · rw [hx1, hy1]
      · have := h.1 y hy1; rw [hx1] at e; omega
    · rcases List.mem_cons.1 hy with hy1 | hy1
      · have := h.1 x hx1; rw [hy1] at e; omega
      · exact ih h.2 x hx1 y hy1 e
theorem P1.cms (h : P1 D n t) {c : Nat} (hc : c ∈ cm t) : c ∈ t.stack := h.sub.subset hc
theorem P1.cpw (h : P1 D n t) : (cm t).Pairwise (fun x y => t.index.getD y 0 < t.index.getD x 0) := h.srt.sublist h.sub
theorem P1.topm (h : P1 D n t) (hc : t.calls = f :: rest) : ∀ c ∈ rest.map Fm.a, t.index.getD c 0 < t.index.getD f.a 0 := by
  have := h.cpw
  rw [cm, hc, List.map_cons, List.pairwise_cons] at this
  exact this.1
theorem P1.tople (h : P1 D n t) (hc : t.calls = f :: rest) : ∀ c ∈ cm t, t.index.getD c 0 ≤ t.index.getD f.a 0 := by
  intro c hcm
  rw [cm, hc, List.map_cons] at hcm
  rcases List.mem_cons.1 hcm with rfl | h1
  · exact Nat.le_refl _
  · exact Nat.le_of_lt (h.topm hc c h1)
theorem P2.fill {H : Nat → Nat → Prop} (h : P2 D n H t) (hg : ∀ x ∈ t.atoms ++ t.stack, ∀ d, H x d → d ∈ t.atoms ++ t.stack ∧ (x ∈ t.stack → d ∈ t.stack → Own t x (fun c => t.low.getD c 0 ≤ t.index.getD d 0))) : P2 D n noHole t :=
  ⟨fun x hx d hd => .inr ((h.good x hx d hd).elim (hg x hx d) id), h.own, h.par, h.adj, h.e1, h.e2, h.cl, h.sc⟩
/-- The top frame's place turns. -/
theorem P2.retop (h : P2 D n noHole t) {f' : Fm} {H : Nat → Nat → Prop} (hc : t.calls = f :: rest) (ha : f'.a = f.a) (hp : ∀ d, pr D n f' d → pr D n f d ∨ H f.a d) : P2 D n H { t with calls := f' :: rest } := by
  have e : cm { t with calls := f' :: rest } = cm t := by rw [cm, cm, hc]; simp [ha]
  have eo : ∀ x R, Own { t with calls := f' :: rest } x R = Own t x R := fun x R => by rw [Own, Own, e]
  refine ⟨?_, ?_, ?_, ?_, h.e1, ?_, h.cl, h.sc⟩
  · intro x hx d hd
    have hd2 : H x d ∨ Done D n t x d := by
      rcases hd with ⟨h1, h2⟩ | ⟨g, h1, h2, h3⟩
      · rw [e] at h1; exact .inr (.inl ⟨h1, h2⟩)
      · rcases List.mem_cons.1 h1 with rfl | h1
        · rcases hp d h3 with h4 | h4
          · exact .inr (.inr ⟨f, by rw [hc]; simp, by rw [← h2, ha], h4⟩)
          · left; rw [← h2, ha]; exact h4
        · exact .inr (.inr ⟨g, by rw [hc]; exact List.mem_cons_of_mem _ h1, h2, h3⟩)
    rcases hd2 with hd2 | hd2
    · exact .inl hd2
    · rcases h.good x hx d hd2 with h1 | h1
      · exact h1.elim
      · exact .inr ⟨h1.1, fun h2 h3 => by rw [eo]; exact h1.2 h2 h3⟩
  · intro x hx; rw [eo]; exact h.own x hx
  · intro x hx c hcm
    rw [e] at hcm
    have := h.par x hx c hcm
    rw [e]; exact this
  · show Adj D (f' :: rest)
    have := h.adj
    rw [hc] at this
    cases rest with
    | nil => trivial
    | cons g r => exact ⟨by rw [ha]; exact this.1, this.2⟩
  · intro x hx h1
    rw [e] at h1
    exact h.e2 x hx h1
theorem P2.visit {H : Nat → Nat → Prop} (p : P1 D n t) (h : P2 D n H t) {a : Nat} (ha : a < n) (h0 : t.index.getD a 0 = 0) (hE : ∀ f rest, t.calls = f :: rest → Ed D f.a a) : P2 D n H (t.visit a) := by
  have hnot : a ∉ t.atoms ++ t.stack := fun hm => (p.vis a ha).2 hm h0
  have hns : a ∉ t.stack := fun hm => hnot (List.mem_append_right _ hm)
  have hne : ∀ y ∈ t.stack, y ≠ a := fun y hy e => hns (e ▸ hy)
  have hce : ∀ y ∈ cm t, y ≠ a := fun y hy => hne y (p.cms hy)
  have hi : ∀ y, y ≠ a → (t.visit a).index.getD y 0 = t.index.getD y 0 := fun y hy => getD_set_ne' _ _ _ _ _ (Ne.symm hy)
  have hia : (t.visit a).index.getD a 0 = t.visited + 1 := getD_set_eq _ _ _ _ (by rw [p.nI]; exact ha)
  have hl : ∀ y, y ≠ a → (t.visit a).low.getD y 0 = t.low.getD y 0 := fun y hy => getD_set_ne' _ _ _ _ _ (Ne.symm hy)
  have hla : (t.visit a).low.getD a 0 = t.visited + 1 := getD_set_eq _ _ _ _ (by rw [p.nL]; exact ha)
  have ecm : cm (t.visit a) = a :: cm t := rfl
  have own' : ∀ x ∈ t.stack, ∀ R R' : Nat → Prop, Own t x R → (∀ c ∈ cm t, R c → R' c) → Own (t.visit a) x R' := by
    rintro x hx R R' ⟨c, hc, h1, h2, h3⟩ hR
    refine ⟨c, by rw [ecm]; exact List.mem_cons_of_mem _ hc, by rw [hi c (hce c hc), hi x (hne x hx)]; exact h1, hR c hc h2, ?_⟩
    intro c' hc'
    rw [ecm] at hc'
    rw [hi x (hne x hx), hi c (hce c hc)]
    rcases List.mem_cons.1 hc' with rfl | hc'
    · rw [hia]; have := p.ile x; omega
    · rw [hi c' (hce c' hc')]; exact h3 c' hc'
  refine ⟨?_, ?_, ?_, ?_, ?_, ?_, h.cl, h.sc⟩
  · intro x hx d hd
    have hx : x ∈ t.atoms ++ a :: t.stack := hx
    have h1 : x ≠ a ∧ Done D n t x d := by
      rcases hd with ⟨h1, h2⟩ | ⟨g, h1, h2, h3⟩
      · rw [ecm] at h1
        exact ⟨fun e => h1 (by rw [e]; simp), .inl ⟨fun hm => h1 (List.mem_cons_of_mem _ hm), h2⟩⟩
      · have h1 : g ∈ (⟨a, 0, 0⟩ : Fm) :: t.calls := h1
        rcases List.mem_cons.1 h1 with rfl | h1
        · exact absurd h3 pr_zero
        · refine ⟨?_, .inr ⟨g, h1, h2, h3⟩⟩
          rw [← h2]
          exact hce _ (List.mem_map.2 ⟨g, h1, rfl⟩)
    have hx2 : x ∈ t.atoms ++ t.stack := by
      rcases List.mem_append.1 hx with h2 | h2
      · exact List.mem_append_left _ h2
      · rcases List.mem_cons.1 h2 with h2 | h2
        · exact absurd h2 h1.1
        · exact List.mem_append_right _ h2
    rcases h.good x hx2 d h1.2 with h2 | ⟨h2, h3⟩
    · exact .inl h2
    · right
      have hda : d ≠ a := fun e => hnot (e ▸ h2)
      refine ⟨?_, ?_⟩
      · show d ∈ t.atoms ++ a :: t.stack
        rcases List.mem_append.1 h2 with h4 | h4
        · exact List.mem_append_left _ h4
        · exact List.mem_append_right _ (List.mem_cons_of_mem _ h4)
      · intro h4 h5
        have h4 : x ∈ a :: t.stack := h4
        have h5 : d ∈ a :: t.stack := h5
        have h4 : x ∈ t.stack := (List.mem_cons.1 h4).resolve_left h1.1
        have h5 : d ∈ t.stack := (List.mem_cons.1 h5).resolve_left hda
        refine own' x h4 _ _ (h3 h4 h5) (fun c hc hR => ?_)
        rw [hl c (hce c hc), hi d hda]; exact hR
  · intro x hx
    have hx : x ∈ a :: t.stack := hx
    rcases List.mem_cons.1 hx with rfl | hx
    · exact ⟨x, by rw [ecm]; simp, Nat.le_refl _, Nat.le_refl _, fun c' _ h1 => h1⟩
    · refine own' x hx _ _ (h.own x hx) (fun c hc hR => ?_)
      rw [hl c (hce c hc), hl x (hne x hx)]; exact hR
  · intro x hx c hc hlt
    have hx : x ∈ a :: t.stack := hx
    rw [ecm] at hc
    rcases List.mem_cons.1 hx with rfl | hx
    · have hcne : t.calls ≠ [] := by
        intro e
        rcases List.mem_cons.1 hc with rfl | hc
        · omega
        · rw [cm, e] at hc; cases hc
      obtain ⟨f, rest, hcc⟩ := List.exists_cons_of_ne_nil hcne
      have hfm : f.a ∈ cm t := by rw [cm, hcc]; simp
      refine ⟨f.a, List.mem_cons_of_mem _ (p.cms hfm), ?_, hE f rest hcc, ?_⟩
      · rw [hi _ (hce _ hfm), hia]; have := p.ile f.a; omega
      · intro c' hc' hlt'
        rw [ecm] at hc'
        rcases List.mem_cons.1 hc' with rfl | hc'
        · omega
        · rw [hi _ (hce _ hc'), hi _ (hce _ hfm)]; exact p.tople hcc c' hc'
    · have hcm : c ∈ cm t := by
        rcases List.mem_cons.1 hc with hca | hc
        · rw [hca, hia, hi x (hne x hx)] at hlt; have := p.ile x; omega
        · exact hc
      rw [hi c (hce c hcm), hi x (hne x hx)] at hlt
      obtain ⟨q, hq, h1, h2, h3⟩ := h.par x hx c hcm hlt
      refine ⟨q, List.mem_cons_of_mem _ hq, by rw [hi q (hne q hq), hi x (hne x hx)]; exact h1, h2, ?_⟩
      intro c' hc'
      rw [ecm] at hc'
      rw [hi x (hne x hx), hi q (hne q hq)]
      rcases List.mem_cons.1 hc' with rfl | hc'
      · rw [hia]; have := p.ile x; omega
      · rw [hi c' (hce c' hc')]; exact h3 c' hc'
  · show Adj D (⟨a, 0, 0⟩ :: t.calls)
    cases hcc : t.calls with
    | nil => trivial
    | cons f rest =>
      have := h.adj
      rw [hcc] at this
      exact ⟨hE f rest hcc, this⟩
  · intro x hx
    have hx : x ∈ a :: t.stack := hx
    rcases List.mem_cons.1 hx with rfl | hx
    · exact ⟨x, List.mem_cons_self .., by rw [hia, hla], Rch.refl x⟩
    · obtain ⟨y, hy, h1, h2⟩ := h.e1 x hx
      refine ⟨y, List.mem_cons_of_mem _ hy, by rw [hi y (hne y hy), hl x (hne x hx)]; exact h1, h2.mono ?_⟩
      rintro z ⟨hz, hz2⟩
      exact ⟨List.mem_cons_of_mem _ hz, by rw [hl x (hne x hx), hi z (hne z hz)]; exact hz2⟩
  · intro x hx hxc
    have hx : x ∈ a :: t.stack := hx
    rw [ecm] at hxc
    have hxa : x ≠ a := fun e => hxc (by rw [e]; simp)
    have hx := (List.mem_cons.1 hx).resolve_left hxa
    rw [hl x hxa, hi x hxa]
    exact h.e2 x hx (fun hm => hxc (List.mem_cons_of_mem _ hm))
theorem P2.lower {H : Nat → Nat → Prop} (p : P1 D n t) (h : P2 D n H t) {x v : Nat} (hx : x ∈ cm t) (hv : ∃ y ∈ t.stack, t.index.getD y 0 = v ∧ Rch (Ed D) (fun z => z ∈ t.stack ∧ v ≤ t.index.getD z 0) x y) :
    P2 D n H { t with low := t.low.set x (if v < t.low.getD x 0 then v else t.low.getD x 0) } := by
  have hxn : x < t.low.length := by rw [p.nL]; exact p.lt x (List.mem_append_right _ (p.cms hx))
  have hs : (t.low.set x (if v < t.low.getD x 0 then v else t.low.getD x 0)).getD x 0 = if v < t.low.getD x 0 then v else t.low.getD x 0 := getD_set_eq _ _ _ _ hxn
  have hn : ∀ u, u ≠ x → (t.low.set x (if v < t.low.getD x 0 then v else t.low.getD x 0)).getD u 0 = t.low.getD u 0 := fun u hu => getD_set_ne' _ _ _ _ _ (Ne.symm hu)
  have hle : ∀ u, (t.low.set x (if v < t.low.getD x 0 then v else t.low.getD x 0)).getD u 0 ≤ t.low.getD u 0 := by
    intro u
    by_cases hu : u = x
    · subst hu; rw [hs]; split <;> omega
    · rw [hn u hu]; exact Nat.le_refl _
  refine ⟨?_, ?_, h.par, h.adj, ?_, ?_, h.cl, h.sc⟩
  · intro y hy d hd
    rcases h.good y hy d hd with h1 | ⟨h1, h2⟩
    · exact .inl h1
    · refine .inr ⟨h1, fun h3 h4 => ?_⟩
      obtain ⟨c, k1, k2, k3, k4⟩ := h2 h3 h4
      exact ⟨c, k1, k2, Nat.le_trans (hle c) k3, k4⟩
  · intro u hu
    by_cases hux : u = x
    · subst hux
      exact ⟨u, hx, Nat.le_refl _, Nat.le_refl _, fun c' _ h1 => h1⟩
    · obtain ⟨c, k1, k2, k3, k4⟩ := h.own u hu
      refine ⟨c, k1, k2, ?_, k4⟩
      show (t.low.set x _).getD c 0 ≤ (t.low.set x _).getD u 0
      rw [hn u hux]
      exact Nat.le_trans (hle c) k3
  · intro u hu
    show ∃ y ∈ t.stack, t.index.getD y 0 = (t.low.set x (if v < t.low.getD x 0 then v else t.low.getD x 0)).getD u 0 ∧ Rch (Ed D) (fun z => z ∈ t.stack ∧ (t.low.set x (if v < t.low.getD x 0 then v else t.low.getD x 0)).getD u 0 ≤ t.index.getD z 0) u y
    by_cases hux : u = x
    · subst hux
      rw [hs]
      split
      · exact hv
      · exact h.e1 u hu
    · rw [hn u hux]; exact h.e1 u hu
  · intro u hu hc
    exact Nat.lt_of_le_of_lt (hle u) (h.e2 u hu hc)
theorem done_rest (hok : Okay n D) (hc : t.calls = f :: rest) (hr : ¬ f.r < (bh D n f.a).length) {t' : TJ} (hc' : t'.calls = rest) {x d : Nat} (h : Done D n t' x d) : Done D n t x d := by
  rcases h with ⟨h1, h2⟩ | ⟨g, h1, h2, h3⟩
  · by_cases hx : x = f.a
    · subst hx
      exact .inr ⟨f, by rw [hc]; simp, rfl, pr_full hok hr h2⟩
    · refine .inl ⟨fun hm => ?_, h2⟩
      rw [cm, hc, List.map_cons] at hm
      rcases List.mem_cons.1 hm with hm | hm
      · exact hx hm
      · exact h1 (by rw [cm, hc']; exact hm)
  · rw [hc'] at h1
    exact .inr ⟨g, by rw [hc]; exact List.mem_cons_of_mem _ h1, h2, h3⟩
theorem P2.pop (hok : Okay n D) (p : P1 D n t) (h : P2 D n noHole t) {c0 : Fm} {rest2 : List Fm} (hc : t.calls = f :: c0 :: rest2) (hr : ¬ f.r < (bh D n f.a).length)
    (hlow : t.low.getD c0.a 0 ≤ t.low.getD f.a 0) (hne : t.low.getD f.a 0 ≠ t.index.getD f.a 0) : P2 D n noHole { t with calls := c0 :: rest2 } := by
  have ecm : cm t = f.a :: cm { t with calls := c0 :: rest2 } := by rw [cm, hc]; rfl
  have hc0 : c0.a ∈ cm { t with calls := c0 :: rest2 } := by simp [cm]
  have htop := p.topm hc
  have htop2 : ∀ c ∈ cm { t with calls := c0 :: rest2 }, t.index.getD c 0 ≤ t.index.getD c0.a 0 := by
    have := p.cpw
    rw [cm, hc, List.map_cons, List.map_cons, List.pairwise_cons, List.pairwise_cons] at this
    intro c hcm
    have hcm : c ∈ c0.a :: rest2.map Fm.a := hcm
    rcases List.mem_cons.1 hcm with rfl | hcm
    · exact Nat.le_refl _
    · exact Nat.le_of_lt (this.2.1 c hcm)
  have own' : ∀ u (R : Nat → Prop), Own t u R → (R f.a → R c0.a) → Own { t with calls := c0 :: rest2 } u R := by
    rintro u R ⟨c, k1, k2, k3, k4⟩ hR
    rw [ecm] at k1 k4
    rcases List.mem_cons.1 k1 with rfl | k1
    · exact ⟨c0.a, hc0, Nat.le_trans (Nat.le_of_lt (htop c0.a (by simp))) k2, hR k3, fun c' hc' _ => htop2 c' hc'⟩
    · exact ⟨c, k1, k2, k3, fun c' hc' h1 => k4 c' (List.mem_cons_of_mem _ hc') h1⟩
  refine ⟨?_, ?_, ?_, ?_, h.e1, ?_, h.cl, h.sc⟩
  · intro x hx d hd
    rcases h.good x hx d (done_rest hok hc hr rfl hd) with h1 | ⟨h1, h2⟩
    · exact h1.elim
    · exact .inr ⟨h1, fun h3 h4 => own' x _ (h2 h3 h4) (fun h5 => Nat.le_trans hlow h5)⟩
  · intro x hx
    exact own' x _ (h.own x hx) (fun h5 => Nat.le_trans hlow h5)
  · intro x hx c hcm hlt
    obtain ⟨q, k1, k2, k3, k4⟩ := h.par x hx c (by rw [ecm]; exact List.mem_cons_of_mem _ hcm) hlt
    exact ⟨q, k1, k2, k3, fun c' hc' h1 => k4 c' (by rw [ecm]; exact List.mem_cons_of_mem _ hc') h1⟩
  · have := h.adj
    rw [hc] at this
    exact this.2
  · intro x hx hxc
    by_cases hxf : x = f.a
    · subst hxf
      have := p.low1 f.a hx
      exact Nat.lt_of_le_of_ne this hne
    · refine h.e2 x hx (fun hm => ?_)
      rw [ecm] at hm
      rcases List.mem_cons.1 hm with hm | hm
      · exact hxf hm
      · exact hxc hm
end
end Go.Proofs.Qxb6600121a
