/-
  THE PLAIN LAW OF THE SOURCES (9): ranks, edges, and Kahn's count.
-/
import Derived.Test.Qxb6600121aSolP
namespace Go.Proofs.Qxb6600121a
open Go
section
variable {D : List Rl} {n k K : Nat} {T U : Nat → Prop} {S S' : SS} {atoms ends : List Nat} {vs : List Int} {ρ : Nat → Nat} {E : List (Nat × Nat)} {cnt : List Int} {rev : List (List Nat)} {dn st us cs : List Nat}
/-- What the law asks of an undecided atom, with one rank for all. -/
def Founded (D : List Rl) (n : Nat) (S : SS) (cs : List Nat) (ρ : Nat → Nat) : Prop := ∀ a, a < n → S.val.getD a 0 = 1 → ∃ r : Nat, S.source.getD a 0 = (r : Int) ∧ r < D.length ∧ (D.getD r rl0).head = a ∧
  a ∉ (D.getD r rl0).all ∧ (∀ b ∈ (D.getD r rl0).all, S.val.getD b 0 ≠ 0) ∧ (∀ b ∈ (D.getD r rl0).unl, S.val.getD b 0 ≠ 2) ∧
  ∀ b ∈ (D.getD r rl0).all, S.val.getD b 0 = 1 → cs.getD b 0 = cs.getD a 0 → ρ b < ρ a
theorem RKx.founded (hok : Okay n D) (hp : Part n atoms ends) (h : RKx D n T U atoms ends ends.length K S) (hcs : ∀ k i, k < ends.length → prevE ends k ≤ i → i < ends.getD k 0 → cs.getD (atoms.getD i 0) 0 = k) : ∃ ρ, Founded D n S cs ρ := by
  have hch : ∀ k, ∃ ρ : Nat → Nat, k < ends.length → ∀ a ∈ sg atoms ends k, S.val.getD a 0 = 1 → ∃ r : Nat, S.source.getD a 0 = (r : Int) ∧ r < D.length ∧ (D.getD r rl0).head = a ∧ S.closed.getD r false = false ∧
    ∀ b ∈ (D.getD r rl0).all, b ∈ sg atoms ends k → S.val.getD b 0 = 1 → 0 ≤ S.source.getD b 0 ∧ ρ b < ρ a := by
    intro k
    by_cases hk : k < ends.length
    · obtain ⟨ρ, hρ⟩ := (h.fixed k hk hk).src
      exact ⟨ρ, fun _ => hρ⟩
    · exact ⟨fun _ => 0, fun e => absurd e hk⟩
  have hin : ∀ x, x < n → ∃ k, k < ends.length ∧ x ∈ sg atoms ends k ∧ cs.getD x 0 = k := by
    intro x hx
    obtain ⟨i, hi, hie⟩ := hp.at hx
    obtain ⟨j, hj, h1, h2⟩ := hp.seg hi
    exact ⟨j, hj, by rw [← hie]; exact sg_mem h1 h2 (by rw [hp.len]; exact (hp.inc j hj).2), by rw [← hie]; exact hcs j i hj h1 h2⟩
  refine ⟨fun x => Classical.choose (hch (cs.getD x 0)) x, fun a ha hv => ?_⟩
  obtain ⟨k, hk, hak, hck⟩ := hin a ha
  have hspec := Classical.choose_spec (hch k) hk
  obtain ⟨r, h1, h2, h3, h4, h5⟩ := hspec a hak hv
  have hfx := h.fixed k hk hk
  obtain ⟨d1, d2, d3⟩ := dead_false (hfx.core.alive h.queue ⟨h2, by rw [h3]; exact hak⟩ h4)
  refine ⟨r, h1, h2, h3, by rw [← h3]; rw [h3] at d1 ⊢; exact d1, d2, d3, fun b hb hbv hcb => ?_⟩
  have hbn : b < n := (hok _ (getD_mem rl0 h2)).2.1 b hb
  obtain ⟨j, hj, hbj, hcj⟩ := hin b hbn
  have hjk : j = k := by rw [← hcj, hcb, hck]
  subst hjk
  show Classical.choose (hch (cs.getD b 0)) b < Classical.choose (hch (cs.getD a 0)) a
  rw [hcj, hck]
  exact (h5 b hb hbj hbv).2
/-! ### Edges -/
def inE (E : List (Nat × Nat)) (a : Nat) : Nat := E.countP (fun e => decide (e.2 = a))
def outE (E : List (Nat × Nat)) (b : Nat) : List Nat := (E.filter (fun e => decide (e.1 = b))).map Prod.snd
structure Edg (n : Nat) (vs : List Int) (ρ : Nat → Nat) (E : List (Nat × Nat)) (cnt : List Int) (rev : List (List Nat)) : Prop where
  clen : cnt.length = n
  rlen : rev.length = n
  c : ∀ a, a < n → cnt.getD a 0 = ((inE E a : Nat) : Int)
  r : ∀ b, b < n → rev.getD b [] = outE E b
  e : ∀ x ∈ E, x.1 < n ∧ x.2 < n ∧ vs.getD x.1 0 = 1 ∧ vs.getD x.2 0 = 1 ∧ ρ x.1 < ρ x.2
theorem edg0 : Edg n vs ρ [] (List.replicate n 0) (List.replicate n []) :=
  ⟨by simp, by simp, fun a _ => getD_rep _ _ _, fun b _ => getD_rep _ _ _, fun x hx => by cases hx⟩
theorem Edg.add (h : Edg n vs ρ E cnt rev) {a b : Nat} (ha : a < n) (hb : b < n) (va : vs.getD a 0 = 1) (vb : vs.getD b 0 = 1) (hr : ρ b < ρ a) : Edg n vs ρ (E ++ [(b, a)]) (cnt.set a (cnt.getD a 0 + 1)) (addTo rev b a) := by
  refine ⟨by rw [List.length_set]; exact h.clen, by rw [addTo_len]; exact h.rlen, fun x hx => ?_, fun x hx => ?_, fun x hx => ?_⟩
  · unfold inE
    rw [List.countP_append, List.countP_singleton]
    by_cases hxa : a = x
    · subst hxa
      rw [getD_set_eq _ _ _ _ (by rw [h.clen]; exact ha), h.c a ha]
      simp [inE]
    · rw [getD_set_ne' _ _ _ _ _ hxa, h.c x hx]
      simp [inE, hxa]
  · unfold outE
    rw [List.filter_append, List.map_append, addTo_getD, h.r x hx]
    by_cases hxb : b = x
    · subst hxb
      rw [if_pos ⟨rfl, by rw [h.rlen]; exact hb⟩]
      simp [outE]
    · rw [if_neg (fun e => hxb e.1)]
      simp [outE, hxb]
  · rcases List.mem_append.1 hx with h1 | h1
    · exact h.e x h1
    · rw [List.mem_singleton] at h1
      subst h1
      exact ⟨hb, ha, vb, va, hr⟩
theorem inE_le (E : List (Nat × Nat)) (a : Nat) : inE E a ≤ E.length := List.countP_le_length
theorem outE_le (E : List (Nat × Nat)) (b : Nat) : (outE E b).length ≤ E.length := by
  unfold outE
  rw [List.length_map]
  exact List.length_filter_le _ _
/-! ### Kahn's count: 'dn' done, 'st' the stack, 'us' the rest of the row in hand. -/
def leftE (E : List (Nat × Nat)) (dn : List Nat) (a : Nat) : Nat := E.countP (fun e => decide (e.2 = a ∧ e.1 ∉ dn))
structure Kah (n : Nat) (vs : List Int) (E : List (Nat × Nat)) (cnt : List Int) (dn st us : List Nat) : Prop where
  clen : cnt.length = n
  nd : (dn ++ st).Nodup
  x : ∀ a ∈ dn ++ st, a < n ∧ vs.getD a 0 = 1
  u : ∀ a ∈ us, a < n ∧ vs.getD a 0 = 1
  ul : us.length ≤ E.length
  c : ∀ a, a < n → vs.getD a 0 = 1 → cnt.getD a 0 = ((leftE E dn a + us.count a : Nat) : Int)
  z : ∀ a, a < n → vs.getD a 0 = 1 → (cnt.getD a 0 = 0 ↔ a ∈ dn ++ st)
def stk (vs cnt : List Int) (i : Nat) : List Nat := (List.range i).filter (fun a => decide (vs.getD a 0 = 1 ∧ cnt.getD a 0 = 0))
def undN (vs : List Int) (i : Nat) : List Nat := (List.range i).filter (fun a => decide (vs.getD a 0 = 1))
theorem stk_yes {i : Nat} (h : vs.getD i 0 = 1) (h2 : cnt.getD i 0 = 0) : stk vs cnt (i + 1) = stk vs cnt i ++ [i] := by
  unfold stk
  rw [List.range_succ, List.filter_append, List.filter_cons_of_pos (by simpa using ⟨h, h2⟩)]
  rfl
theorem stk_no {i : Nat} (h : ¬ (vs.getD i 0 = 1 ∧ cnt.getD i 0 = 0)) : stk vs cnt (i + 1) = stk vs cnt i := by
  unfold stk
  rw [List.range_succ, List.filter_append, List.filter_cons_of_neg (by simpa using h)]
  simp
theorem undN_yes {i : Nat} (h : vs.getD i 0 = 1) : undN vs (i + 1) = undN vs i ++ [i] := by
  unfold undN
  rw [List.range_succ, List.filter_append, List.filter_cons_of_pos (by simpa using h)]
  rfl
theorem undN_no {i : Nat} (h : ¬ vs.getD i 0 = 1) : undN vs (i + 1) = undN vs i := by
  unfold undN
  rw [List.range_succ, List.filter_append, List.filter_cons_of_neg (by simpa using h)]
  simp
theorem stk_len (i : Nat) : (stk vs cnt i).length ≤ i := by
  have := List.length_filter_le (fun a => decide (vs.getD a 0 = 1 ∧ cnt.getD a 0 = 0)) (List.range i)
  rw [List.length_range] at this
  exact this
theorem undN_len (i : Nat) : (undN vs i).length ≤ i := by
  have := List.length_filter_le (fun a => decide (vs.getD a 0 = 1)) (List.range i)
  rw [List.length_range] at this
  exact this
theorem kah0 (h : Edg n vs ρ E cnt rev) : Kah n vs E cnt [] (stk vs cnt n) [] := by
  refine ⟨h.clen, ?_, fun a ha => ?_, fun a ha => (by cases ha), Nat.zero_le _, fun a ha hv => ?_, fun a ha hv => ?_⟩
  · rw [List.nil_append]
    exact List.Pairwise.filter _ List.nodup_range
  · rw [List.nil_append] at ha
    unfold stk at ha
    rw [List.mem_filter, List.mem_range] at ha
    exact ⟨ha.1, (of_decide_eq_true ha.2).1⟩
  · rw [h.c a ha]
    simp [leftE, inE]
  · rw [List.nil_append]
    unfold stk
    rw [List.mem_filter, List.mem_range]
    constructor
    · intro e
      exact ⟨ha, decide_eq_true ⟨hv, e⟩⟩
    · intro e
      exact (of_decide_eq_true e.2).2
theorem leftE_pop (E : List (Nat × Nat)) (dn : List Nat) (b a : Nat) (hb : b ∉ dn) : leftE E dn a = leftE E (dn ++ [b]) a + (outE E b).count a := by
  unfold leftE outE
  induction E with
  | nil => rfl
  | cons e E ih =>
    rw [List.countP_cons, List.countP_cons, ih, List.filter_cons]
    by_cases h1 : e.1 = b
    · rw [if_pos (show decide (e.1 = b) = true from decide_eq_true h1), List.map_cons, List.count_cons]
      by_cases h2 : e.2 = a
      · have h3 : decide (e.2 = a ∧ e.1 ∉ dn) = true := decide_eq_true ⟨h2, by rw [h1]; exact hb⟩
        have h4 : decide (e.2 = a ∧ e.1 ∉ dn ++ [b]) = false := decide_eq_false (fun e2 => e2.2 (by rw [h1]; simp))
        rw [if_pos h3, if_neg (by rw [h4]; decide), if_pos (show (e.2 == a) = true by simpa using h2)]
        omega
      · have h3 : decide (e.2 = a ∧ e.1 ∉ dn) = false := decide_eq_false (fun e2 => h2 e2.1)
        have h4 : decide (e.2 = a ∧ e.1 ∉ dn ++ [b]) = false := decide_eq_false (fun e2 => h2 e2.1)
        rw [if_neg (by rw [h3]; decide), if_neg (by rw [h4]; decide), if_neg (show ¬ (e.2 == a) = true by simpa using h2)]
        omega
    · have h5 : (e.1 ∉ dn ++ [b]) ↔ e.1 ∉ dn := by simp [h1]
      rw [if_neg (show ¬ decide (e.1 = b) = true by simpa using h1)]
      have h6 : decide (e.2 = a ∧ e.1 ∉ dn ++ [b]) = decide (e.2 = a ∧ e.1 ∉ dn) := by
        rw [decide_eq_decide, h5]
      rw [h6]
      omega
theorem perm_pop (dn st : List Nat) (b : Nat) : (dn ++ [b] ++ st).Perm (dn ++ (st ++ [b])) := by
  rw [List.append_assoc]
  exact List.Perm.append_left dn List.perm_append_comm
theorem Kah.pop {b : Nat} (hE : ∀ x ∈ E, x.1 < n ∧ x.2 < n ∧ vs.getD x.1 0 = 1 ∧ vs.getD x.2 0 = 1 ∧ ρ x.1 < ρ x.2) (h : Kah n vs E cnt dn (st ++ [b]) []) : Kah n vs E cnt (dn ++ [b]) st (outE E b) := by
  have hp := perm_pop dn st b
  have hbd : b ∉ dn := by
    intro e
    have := (List.nodup_append.1 h.nd).2.2 b e b (by simp)
    exact this rfl
  refine ⟨h.clen, hp.nodup_iff.2 h.nd, fun a ha => h.x a (hp.mem_iff.1 ha), fun a ha => ?_, outE_le E b, fun a ha hv => ?_, fun a ha hv => ?_⟩
  · unfold outE at ha
    obtain ⟨e, he, rfl⟩ := List.mem_map.1 ha
    have := hE e (List.mem_filter.1 he).1
    exact ⟨this.2.1, this.2.2.2.1⟩
  · rw [h.c a ha hv, leftE_pop E dn b a hbd]
    simp
  · rw [h.z a ha hv, hp.mem_iff]
theorem Kah.step {u : Nat} (h : Kah n vs E cnt dn st (u :: us)) : Kah n vs E (cnt.set u (cnt.getD u 0 - 1)) dn (if cnt.getD u 0 - 1 = 0 then st ++ [u] else st) us := by
  obtain ⟨hun, huv⟩ := h.u u (List.mem_cons_self ..)
  have hul : u < cnt.length := by rw [h.clen]; exact hun
  have hcu := h.c u hun huv
  rw [List.count_cons_self] at hcu
  have hnot : u ∉ dn ++ st := fun e => by
    have := (h.z u hun huv).2 e
    omega
  have hC : ∀ a, a < n → vs.getD a 0 = 1 → (cnt.set u (cnt.getD u 0 - 1)).getD a 0 = ((leftE E dn a + us.count a : Nat) : Int) := by
    intro a ha hv
    by_cases hau : u = a
    · subst hau
      rw [getD_set_eq _ _ _ _ hul]
      omega
    · rw [getD_set_ne' _ _ _ _ _ hau, h.c a ha hv, List.count_cons_of_ne hau]
  by_cases hz : cnt.getD u 0 - 1 = 0
  · rw [if_pos hz]
    refine ⟨by rw [List.length_set]; exact h.clen, ?_, fun a ha => ?_, fun a ha => h.u a (List.mem_cons_of_mem _ ha), by have := h.ul; rw [List.length_cons] at this; omega, hC, fun a ha hv => ?_⟩
    · rw [← List.append_assoc, List.nodup_append]
      exact ⟨h.nd, by simp, fun x hx y hy e => by rw [List.mem_singleton] at hy; subst hy; subst e; exact hnot hx⟩
    · rw [← List.append_assoc] at ha
      rcases List.mem_append.1 ha with h1 | h1
      · exact h.x a h1
      · rw [List.mem_singleton] at h1; subst h1; exact ⟨hun, huv⟩
    · rw [← List.append_assoc, List.mem_append, List.mem_singleton]
      by_cases hau : u = a
      · subst hau
        rw [getD_set_eq _ _ _ _ hul]
        exact ⟨fun _ => .inr rfl, fun _ => hz⟩
      · rw [getD_set_ne' _ _ _ _ _ hau, h.z a ha hv]
        exact ⟨fun e => .inl e, fun e => e.elim id (fun e2 => absurd e2.symm hau)⟩
  · rw [if_neg hz]
    refine ⟨by rw [List.length_set]; exact h.clen, h.nd, h.x, fun a ha => h.u a (List.mem_cons_of_mem _ ha), by have := h.ul; rw [List.length_cons] at this; omega, hC, fun a ha hv => ?_⟩
    by_cases hau : u = a
    · subst hau
      rw [getD_set_eq _ _ _ _ hul]
      exact ⟨fun e => absurd e hz, fun e => absurd e hnot⟩
    · rw [getD_set_ne' _ _ _ _ _ hau, h.z a ha hv]
theorem Kah.fin (hE : ∀ x ∈ E, x.1 < n ∧ x.2 < n ∧ vs.getD x.1 0 = 1 ∧ vs.getD x.2 0 = 1 ∧ ρ x.1 < ρ x.2) (h : Kah n vs E cnt dn [] []) : dn.length = (undN vs n).length := by
  have hall : ∀ m a, ρ a ≤ m → a < n → vs.getD a 0 = 1 → a ∈ dn := by
    intro m
    induction m with
    | zero =>
      intro a hm ha hv
      by_cases hd : a ∈ dn
      · exact hd
      · exfalso
        have h1 : ¬ cnt.getD a 0 = 0 := fun e => hd (by simpa using (h.z a ha hv).1 e)
        rw [h.c a ha hv] at h1
        have h2 : 0 < leftE E dn a := by simp only [List.count_nil] at h1; omega
        obtain ⟨e, he, he2⟩ := List.countP_pos_iff.1 h2
        have h3 := hE e he
        have h4 := of_decide_eq_true he2
        rw [h4.1] at h3
        omega
    | succ m ih =>
      intro a hm ha hv
      by_cases hd : a ∈ dn
      · exact hd
      · exfalso
        have h1 : ¬ cnt.getD a 0 = 0 := fun e => hd (by simpa using (h.z a ha hv).1 e)
        rw [h.c a ha hv] at h1
        have h2 : 0 < leftE E dn a := by simp only [List.count_nil] at h1; omega
        obtain ⟨e, he, he2⟩ := List.countP_pos_iff.1 h2
        have h3 := hE e he
        have h4 := of_decide_eq_true he2
        rw [h4.1] at h3
        exact h4.2 (ih e.1 (by omega) h3.1 h3.2.2.1)
  have hnd : dn.Nodup := (List.nodup_append.1 h.nd).1
  have h1 : dn.length ≤ (undN vs n).length := nodup_subset_length hnd (fun x hx => by
    have := h.x x (List.mem_append_left _ hx)
    unfold undN
    rw [List.mem_filter, List.mem_range]
    exact ⟨this.1, decide_eq_true this.2⟩)
  have h2 : (undN vs n).length ≤ dn.length := nodup_subset_length (List.Pairwise.filter _ List.nodup_range) (fun x hx => by
    unfold undN at hx
    rw [List.mem_filter, List.mem_range] at hx
    exact hall (ρ x) x (Nat.le_refl _) hx.1 (of_decide_eq_true hx.2))
  omega
theorem Kah.len (h : Kah n vs E cnt dn st us) : dn.length + st.length ≤ n := by
  have := nodup_lt_length h.nd (fun x hx => (h.x x hx).1)
  rw [List.length_append] at this
  exact this
theorem Kah.pos {a : Nat} (h : Kah n vs E cnt dn st (a :: us)) : 1 ≤ cnt.getD a 0 ∧ cnt.getD a 0 ≤ ((2 * E.length : Nat) : Int) := by
  obtain ⟨hun, huv⟩ := h.u a (List.mem_cons_self ..)
  have hcu := h.c a hun huv
  have h1 : leftE E dn a ≤ E.length := List.countP_le_length
  have h2 : (a :: us).count a ≤ (a :: us).length := List.count_le_length
  have h3 := h.ul
  rw [List.count_cons_self] at hcu h2
  omega
end
end Go.Proofs.Qxb6600121a
