/-
  THE PLAIN LAW OF THE COMPONENTS (1): each atom once; it ends. No Go in sight.
-/
import Derived.Test.Qxb6600121aTj
import Derived.Test.Qxb6600121aW16
namespace Go.Proofs.Qxb6600121a
open Go

/-! ### Lists -/
theorem getD_set_eq {α : Type} (l : List α) (i : Nat) (x d : α) (h : i < l.length) : (l.set i x).getD i d = x := by
  rw [List.getD_eq_getElem?_getD, List.getElem?_set_self h]; rfl
theorem getD_set_ne' {α : Type} (l : List α) (i j : Nat) (x d : α) (h : i ≠ j) : (l.set i x).getD j d = l.getD j d := by
  rw [List.getD_eq_getElem?_getD, List.getElem?_set_ne h, ← List.getD_eq_getElem?_getD]
theorem sublist_split {a : Nat} {l pre post : List Nat} (h : (a :: l).Sublist (pre ++ a :: post)) (ha : a ∉ pre) : l.Sublist post := by
  induction pre with
  | nil =>
    cases h with
    | cons _ h1 => exact (List.sublist_cons_self a l).trans h1
    | cons_cons _ h1 => exact h1
  | cons x pre ih =>
    have hx : a ≠ x := fun e => ha (by rw [e]; exact List.mem_cons_self ..)
    cases h with
    | cons _ h1 => exact ih h1 (fun hm => ha (List.mem_cons_of_mem _ hm))
    | cons_cons _ h1 => exact absurd rfl hx
/-- What comes ahead of the first 'a'. -/
def ahead (a : Nat) : List Nat → List Nat
  | [] => []
  | x :: l => if x = a then [] else x :: ahead a l
def behind (a : Nat) : List Nat → List Nat
  | [] => []
  | x :: l => if x = a then l else behind a l
theorem ahead_behind (a : Nat) (l : List Nat) (h : a ∈ l) : l = ahead a l ++ a :: behind a l := by
  induction l with
  | nil => cases h
  | cons x l ih =>
    rw [ahead, behind]
    by_cases hx : x = a
    · rw [if_pos hx, if_pos hx, hx]; rfl
    · rw [if_neg hx, if_neg hx]
      rcases List.mem_cons.1 h with h1 | h1
      · exact absurd h1.symm hx
      · rw [List.cons_append, ← ih h1]
theorem ahead_not (a : Nat) (l : List Nat) : a ∉ ahead a l := by
  induction l with
  | nil => intro h; cases h
  | cons x l ih =>
    rw [ahead]
    split
    · intro h; cases h
    · rename_i hx
      intro h
      rcases List.mem_cons.1 h with h1 | h1
      · exact hx h1.symm
      · exact ih h1
/-- Bools set to false. -/
def offAll (bs : List Bool) (l : List Nat) : List Bool := l.foldl (fun b x => b.set x false) bs
theorem offAll_len (bs : List Bool) (l : List Nat) : (offAll bs l).length = bs.length := by
  unfold offAll
  induction l generalizing bs with
  | nil => rfl
  | cons x l ih => rw [List.foldl_cons, ih]; simp
theorem offAll_get (bs : List Bool) (l : List Nat) (y : Nat) : (offAll bs l).getD y false = true ↔ bs.getD y false = true ∧ y ∉ l := by
  unfold offAll
  induction l generalizing bs with
  | nil => simp
  | cons x l ih =>
    rw [List.foldl_cons, ih]
    by_cases hx : x = y
    · subst hx
      have : (bs.set x false).getD x false = false := by
        by_cases h : x < bs.length
        · exact getD_set_eq _ _ _ _ h
        · rw [List.getD_eq_getElem?_getD, List.getElem?_eq_none (by simp; omega)]; rfl
      rw [this]
      simp
    · rw [getD_set_ne' _ _ _ _ _ hx]
      simp [List.mem_cons, Ne.symm hx]
theorem popTo_eq (a : Nat) (l : List Nat) (t : TJ) (h : a ∈ l) : popTo a l t = { t with stack := behind a l, opn := offAll t.opn (ahead a l ++ [a]), atoms := t.atoms ++ (ahead a l ++ [a]) } := by
  induction l generalizing t with
  | nil => cases h
  | cons x l ih =>
    rw [popTo, ahead, behind]
    by_cases hx : x = a
    · rw [if_pos hx, if_pos hx, if_pos hx]
      subst hx
      simp [offAll]
    · rw [if_neg hx, if_neg hx, if_neg hx]
      rcases List.mem_cons.1 h with h1 | h1
      · exact absurd h1.symm hx
      · rw [ih _ h1]
        simp [offAll]

/-! ### The work that is left -/
def blen (D : List Rl) (r : Nat) : Nat := (D.getD r rl0).all.length + (D.getD r rl0).unl.length
def bh (D : List Rl) (n a : Nat) : List Nat := (idxH D n D.length).getD a []
def wk (D : List Rl) (n a k : Nat) : Nat := (((bh D n a).drop k).map (fun r => blen D r + 1)).sum
def rem (D : List Rl) (n : Nat) (f : Fm) : Nat := wk D n f.a f.r + 1 - f.i
def maxK (D : List Rl) (n : Nat) : Nat := ((List.range n).map (fun a => wk D n a 0 + 1)).sum + 1
theorem le_sum {l : List Nat} {x : Nat} (h : x ∈ l) : x ≤ l.sum := by
  induction l with
  | nil => cases h
  | cons y l ih =>
    rw [List.sum_cons]
    rcases List.mem_cons.1 h with h1 | h1
    · omega
    · have := ih h1; omega
theorem wk_le (D : List Rl) (n a : Nat) (h : a < n) : wk D n a 0 + 1 < maxK D n := by
  have : wk D n a 0 + 1 ≤ ((List.range n).map (fun a => wk D n a 0 + 1)).sum := le_sum (List.mem_map.2 ⟨a, List.mem_range.2 h, rfl⟩)
  unfold maxK
  omega
theorem wk_step (D : List Rl) (n a k : Nat) (h : k < (bh D n a).length) : wk D n a k = blen D ((bh D n a).getD k 0) + 1 + wk D n a (k + 1) := by
  unfold wk
  rw [List.drop_eq_getElem_cons h, List.map_cons, List.sum_cons]
  simp [h]
def mu (D : List Rl) (n : Nat) (t : TJ) : Nat := (n - t.visited) * maxK D n + (t.calls.map (rem D n)).sum

/-- THE INVARIANT (1). -/
structure P1 (D : List Rl) (n : Nat) (t : TJ) : Prop where
  nI : t.index.length = n
  nL : t.low.length = n
  nO : t.opn.length = n
  nd : (t.atoms ++ t.stack).Nodup
  lt : ∀ x ∈ t.atoms ++ t.stack, x < n
  vis : ∀ x, x < n → (t.index.getD x 0 ≠ 0 ↔ x ∈ t.atoms ++ t.stack)
  opn : ∀ x, t.opn.getD x false = true ↔ x ∈ t.stack
  sub : (t.calls.map Fm.a).Sublist t.stack
  vnum : t.visited = (t.atoms ++ t.stack).length
  ile : ∀ x, t.index.getD x 0 ≤ t.visited
  srt : t.stack.Pairwise (fun x y => t.index.getD y 0 < t.index.getD x 0)
  low1 : ∀ x ∈ t.stack, t.low.getD x 0 ≤ t.index.getD x 0
  low2 : ∀ x ∈ t.stack, ∃ y ∈ t.stack, t.index.getD y 0 = t.low.getD x 0
  ends : ∀ k, k < t.ends.length → prevE t.ends k < t.ends.getD k 0 ∧ t.ends.getD k 0 ≤ t.atoms.length
  last : prevE t.ends t.ends.length = t.atoms.length
  bot : t.stack.getLast? = (t.calls.map Fm.a).getLast?
  fr : ∀ f ∈ t.calls, f.i ≤ wk D n f.a f.r ∧ (f.r < (bh D n f.a).length → f.i ≤ blen D ((bh D n f.a).getD f.r 0))
theorem nodup_lt_length {l : List Nat} {n : Nat} (hnd : l.Nodup) (hlt : ∀ x ∈ l, x < n) : l.length ≤ n := by
  induction n generalizing l with
  | zero =>
    cases l with
    | nil => exact Nat.zero_le _
    | cons x l => exact absurd (hlt x (List.mem_cons_self ..)) (Nat.not_lt_zero _)
  | succ n ih =>
    by_cases hm : n ∈ l
    · have h1 := ih (l := l.erase n) (hnd.erase n) (fun x hx => by
        have := (hnd.mem_erase_iff).1 hx
        have := hlt x this.2
        omega)
      rw [List.length_erase_of_mem hm] at h1
      omega
    · have := ih hnd (fun x hx => by
        have := hlt x hx
        have : x ≠ n := fun e => hm (e ▸ hx)
        omega)
      omega
section
variable {D : List Rl} {n : Nat} {t : TJ}
theorem P1.safe (h : P1 D n t) : Safe n t := by
  have hlen := nodup_lt_length h.nd h.lt
  rw [List.length_append] at hlen
  have hs : ∀ f ∈ t.calls, f.a ∈ t.stack := fun f hf => h.sub.subset (List.mem_map.2 ⟨f, hf, rfl⟩)
  have hsl := h.sub.length_le
  rw [List.length_map] at hsl
  have hv := h.vnum
  rw [List.length_append] at hv
  refine ⟨fun f hf => h.lt _ (List.mem_append_right _ (hs f hf)), fun x hx => h.lt x (List.mem_append_right _ hx), hs, by omega, by omega, by omega, ?_⟩
  -- the ends are as many as atoms at most
  have key : ∀ k, k ≤ t.ends.length → k ≤ prevE t.ends k := by
    intro k
    induction k with
    | zero => intro _; exact Nat.zero_le _
    | succ k ih =>
      intro hk
      have h1 := (h.ends k (by omega)).1
      have h2 := ih (by omega)
      rw [prevE_succ]
      omega
  have := key _ (Nat.le_refl _)
  have := h.last
  omega
theorem p1_start (D : List Rl) (n : Nat) : P1 D n (ts0 n) := by
  refine ⟨by simp [ts0], by simp [ts0], by simp [ts0], by simp [ts0], by simp [ts0], ?_, ?_, by simp [ts0], by simp [ts0], ?_, by simp [ts0], by simp [ts0], by simp [ts0], by simp [ts0], rfl, rfl, by simp [ts0]⟩
  · intro x _
    show (List.replicate n 0).getD x 0 ≠ 0 ↔ x ∈ ([] : List Nat) ++ []
    rw [getD_rep]
    simp
  · intro x
    show (List.replicate n false).getD x false = true ↔ x ∈ ([] : List Nat)
    rw [getD_rep]
    simp
  · intro x
    show (List.replicate n 0).getD x 0 ≤ 0
    rw [getD_rep]
    exact Nat.le_refl _
/-- A visit to an atom not yet visited. -/
theorem P1.visit (h : P1 D n t) {a : Nat} (ha : a < n) (h0 : t.index.getD a 0 = 0) (hb : t.stack = [] ∨ t.calls ≠ []) : P1 D n (t.visit a) := by
  have hnot : a ∉ t.atoms ++ t.stack := fun hm => (h.vis a ha).2 hm h0
  have hna : a ∉ t.atoms := fun hm => hnot (List.mem_append_left _ hm)
  have hns : a ∉ t.stack := fun hm => hnot (List.mem_append_right _ hm)
  have hi : ∀ y, y ≠ a → (t.index.set a (t.visited + 1)).getD y 0 = t.index.getD y 0 := fun y hy => getD_set_ne' _ _ _ _ _ (Ne.symm hy)
  have hia : (t.index.set a (t.visited + 1)).getD a 0 = t.visited + 1 := getD_set_eq _ _ _ _ (by rw [h.nI]; exact ha)
  have hl : ∀ y, y ≠ a → (t.low.set a (t.visited + 1)).getD y 0 = t.low.getD y 0 := fun y hy => getD_set_ne' _ _ _ _ _ (Ne.symm hy)
  have hla : (t.low.set a (t.visited + 1)).getD a 0 = t.visited + 1 := getD_set_eq _ _ _ _ (by rw [h.nL]; exact ha)
  have hne : ∀ y ∈ t.stack, y ≠ a := fun y hy e => hns (e ▸ hy)
  constructor
  · show (t.index.set a (t.visited + 1)).length = n; simpa using h.nI
  · show (t.low.set a (t.visited + 1)).length = n; simpa using h.nL
  · show (t.opn.set a true).length = n; simpa using h.nO
  · show (t.atoms ++ a :: t.stack).Nodup
    have h1 := h.nd
    rw [List.nodup_append] at h1 ⊢
    refine ⟨h1.1, List.nodup_cons.2 ⟨hns, h1.2.1⟩, fun x hx y hy => ?_⟩
    rcases List.mem_cons.1 hy with rfl | hy
    · exact fun e => hna (e ▸ hx)
    · exact h1.2.2 x hx y hy
  · intro x hx
    rcases List.mem_append.1 hx with hx | hx
    · exact h.lt x (List.mem_append_left _ hx)
    · rcases List.mem_cons.1 hx with rfl | hx
      · exact ha
      · exact h.lt x (List.mem_append_right _ hx)
  · intro x hx
    show (t.index.set a (t.visited + 1)).getD x 0 ≠ 0 ↔ x ∈ t.atoms ++ a :: t.stack
    by_cases hxa : x = a
    · subst hxa
      rw [hia]
      simp
    · rw [hi x hxa, h.vis x hx]
      simp [hxa]
  · intro x
    show (t.opn.set a true).getD x false = true ↔ x ∈ a :: t.stack
    by_cases hxa : x = a
    · subst hxa
      rw [getD_set_eq _ _ _ _ (by rw [h.nO]; exact ha)]
      simp
    · rw [getD_set_ne' _ _ _ _ _ (Ne.symm hxa), h.opn x]
      simp [hxa]
  · show (a :: t.calls.map Fm.a).Sublist (a :: t.stack)
    exact h.sub.cons_cons a
  · show t.visited + 1 = (t.atoms ++ a :: t.stack).length
    have := h.vnum
    simp at this ⊢
    omega
  · intro x
    show (t.index.set a (t.visited + 1)).getD x 0 ≤ t.visited + 1
    by_cases hxa : x = a
    · subst hxa; rw [hia]; exact Nat.le_refl _
    · rw [hi x hxa]; have := h.ile x; omega
  · show (a :: t.stack).Pairwise (fun x y => (t.index.set a (t.visited + 1)).getD y 0 < (t.index.set a (t.visited + 1)).getD x 0)
    rw [List.pairwise_cons]
    refine ⟨fun y hy => ?_, ?_⟩
    · rw [hia, hi y (hne y hy)]; have := h.ile y; omega
    · exact h.srt.imp_of_mem fun hx hy hlt => by rw [hi _ (hne _ hx), hi _ (hne _ hy)]; exact hlt
  · intro x hx
    show (t.low.set a (t.visited + 1)).getD x 0 ≤ (t.index.set a (t.visited + 1)).getD x 0
    rcases List.mem_cons.1 hx with rfl | hx
    · rw [hla, hia]; exact Nat.le_refl _
    · rw [hl x (hne x hx), hi x (hne x hx)]; exact h.low1 x hx
  · intro x hx
    show ∃ y ∈ a :: t.stack, (t.index.set a (t.visited + 1)).getD y 0 = (t.low.set a (t.visited + 1)).getD x 0
    rcases List.mem_cons.1 hx with rfl | hx
    · exact ⟨x, List.mem_cons_self .., by rw [hla, hia]⟩
    · obtain ⟨y, hy, he⟩ := h.low2 x hx
      exact ⟨y, List.mem_cons_of_mem _ hy, by rw [hl x (hne x hx), hi y (hne y hy)]; exact he⟩
  · exact h.ends
  · exact h.last
  · show (a :: t.stack).getLast? = (a :: t.calls.map Fm.a).getLast?
    rcases hb with hb | hb
    · have hc : t.calls.map Fm.a = [] := by have := h.sub; rw [hb] at this; exact List.sublist_nil.1 this
      rw [hb, hc]
    · have h1 : t.calls.map Fm.a ≠ [] := by simpa using hb
      have h2 : t.stack ≠ [] := by
        intro e
        have := h.sub
        rw [e] at this
        exact h1 (List.sublist_nil.1 this)
      obtain ⟨c, cs, hc⟩ := List.exists_cons_of_ne_nil h1
      obtain ⟨s, ss, hs⟩ := List.exists_cons_of_ne_nil h2
      have := h.bot
      rw [hc, hs] at this ⊢
      simpa [List.getLast?_cons_cons] using this
  · intro f hf
    rcases List.mem_cons.1 hf with rfl | hf
    · exact ⟨Nat.zero_le _, fun _ => Nat.zero_le _⟩
    · exact h.fr f hf
/-- Only the top frame's place has turned. -/
theorem P1.retop (h : P1 D n t) {f f' : Fm} {rest : List Fm} (hc : t.calls = f :: rest) (ha : f'.a = f.a) (hf : f'.i ≤ wk D n f'.a f'.r ∧ (f'.r < (bh D n f'.a).length → f'.i ≤ blen D ((bh D n f'.a).getD f'.r 0))) :
    P1 D n { t with calls := f' :: rest } := by
  have e : (f' :: rest).map Fm.a = t.calls.map Fm.a := by rw [hc]; simp [ha]
  refine ⟨h.nI, h.nL, h.nO, h.nd, h.lt, h.vis, h.opn, ?_, h.vnum, h.ile, h.srt, h.low1, h.low2, h.ends, h.last, ?_, ?_⟩
  · show ((f' :: rest).map Fm.a).Sublist t.stack; rw [e]; exact h.sub
  · show t.stack.getLast? = ((f' :: rest).map Fm.a).getLast?; rw [e]; exact h.bot
  · intro g hg
    rcases List.mem_cons.1 hg with rfl | hg
    · exact hf
    · exact h.fr g (by rw [hc]; exact List.mem_cons_of_mem _ hg)
/-- A low brought down to another's index or low. -/
theorem P1.lower (h : P1 D n t) {x v : Nat} (hx : x ∈ t.stack) (hv : ∃ y ∈ t.stack, t.index.getD y 0 = v) : P1 D n { t with low := t.low.set x (if v < t.low.getD x 0 then v else t.low.getD x 0) } := by
  have hxn : x < t.low.length := by rw [h.nL]; exact h.lt x (List.mem_append_right _ hx)
  refine ⟨h.nI, by show (t.low.set x _).length = n; simpa using h.nL, h.nO, h.nd, h.lt, h.vis, h.opn, h.sub, h.vnum, h.ile, h.srt, ?_, ?_, h.ends, h.last, h.bot, h.fr⟩
  · intro y hy
    show (t.low.set x (if v < t.low.getD x 0 then v else t.low.getD x 0)).getD y 0 ≤ t.index.getD y 0
    by_cases hxy : x = y
    · subst hxy
      rw [getD_set_eq _ _ _ _ hxn]
      have := h.low1 x hx
      split <;> omega
    · rw [getD_set_ne' _ _ _ _ _ hxy]; exact h.low1 y hy
  · intro y hy
    show ∃ z ∈ t.stack, t.index.getD z 0 = (t.low.set x (if v < t.low.getD x 0 then v else t.low.getD x 0)).getD y 0
    by_cases hxy : x = y
    · subst hxy
      rw [getD_set_eq _ _ _ _ hxn]
      split
      · exact hv
      · exact h.low2 x hx
    · rw [getD_set_ne' _ _ _ _ _ hxy]; exact h.low2 y hy
end
end Go.Proofs.Qxb6600121a
