/-
  THE PLAIN LAW OF THE SOLVER (3): counts, and the invariant while atoms are followed. No Go in sight.
-/
import Derived.Test.Qxb6600121aW24
namespace Go.Proofs.Qxb6600121a
open Go
/-! ### Counts -/
def occ (D : List Rl) (a r : Nat) : Nat := (D.getD r rl0).all.count a + (D.getD r rl0).unl.count a
def pendQ (D : List Rl) (q : List Nat) (r : Nat) : Nat := (q.map (fun a => occ D a r)).sum
def cntE (r : Nat) (evs : List (Nat × Bool)) : Nat := evs.countP (fun e => decide (e.1 = r))
theorem countP_set (vs : List Int) (a : Nat) (t : Int) (ht : t ≠ 1) (h : vs.getD a 0 = 1) (l : List Nat) :
    l.countP (fun x => decide ((vs.set a t).getD x 0 = 1)) + l.count a = l.countP (fun x => decide (vs.getD x 0 = 1)) := by
  have ha : a < vs.length := by
    by_cases hl : a < vs.length
    · exact hl
    · rw [List.getD_eq_getElem?_getD, List.getElem?_eq_none (by omega)] at h; cases h
  induction l with
  | nil => rfl
  | cons x l ih =>
    rw [List.countP_cons, List.countP_cons, List.count_cons]
    by_cases hx : x = a
    · subst hx
      rw [getD_set_eq _ _ _ _ ha]
      simp only [decide_eq_true_eq, if_neg ht, if_pos h, beq_self_eq_true, if_true]
      omega
    · rw [getD_set_ne' _ _ _ _ _ (Ne.symm hx)]
      have : (x == a) = false := by simpa using hx
      rw [this]
      simp only [Bool.false_eq_true, if_false]
      omega
theorem waits_set (D : List Rl) (S : SS) (a : Nat) (t : Int) (ht : t ≠ 1) (h : S.val.getD a 0 = 1) (q : List Nat) (r : Nat) : waits D { S with val := S.val.set a t, queue := q } r + occ D a r = waits D S r := by
  have h1 := countP_set S.val a t ht h (D.getD r rl0).all
  have h2 := countP_set S.val a t ht h (D.getD r rl0).unl
  unfold waits occ
  show (D.getD r rl0).all.countP (fun x => decide ((S.val.set a t).getD x 0 = 1)) + (D.getD r rl0).unl.countP (fun x => decide ((S.val.set a t).getD x 0 = 1)) + _ = _
  omega
theorem waits_zero {D : List Rl} {S : SS} {r : Nat} (h : waits D S r = 0) : (∀ a ∈ (D.getD r rl0).all, S.val.getD a 0 ≠ 1) ∧ ∀ a ∈ (D.getD r rl0).unl, S.val.getD a 0 ≠ 1 := by
  unfold waits at h
  have h1 : (D.getD r rl0).all.countP (fun a => decide (S.val.getD a 0 = 1)) = 0 := by omega
  have h2 : (D.getD r rl0).unl.countP (fun a => decide (S.val.getD a 0 = 1)) = 0 := by omega
  rw [List.countP_eq_zero] at h1 h2
  exact ⟨fun a ha e => h1 a ha (decide_eq_true e), fun a ha e => h2 a ha (decide_eq_true e)⟩
theorem waits_of {D : List Rl} {S : SS} {r : Nat} (h1 : ∀ a ∈ (D.getD r rl0).all, S.val.getD a 0 ≠ 1) (h2 : ∀ a ∈ (D.getD r rl0).unl, S.val.getD a 0 ≠ 1) : waits D S r = 0 := by
  unfold waits
  have e1 : (D.getD r rl0).all.countP (fun a => decide (S.val.getD a 0 = 1)) = 0 := List.countP_eq_zero.2 fun a ha e => h1 a ha (of_decide_eq_true e)
  have e2 : (D.getD r rl0).unl.countP (fun a => decide (S.val.getD a 0 = 1)) = 0 := List.countP_eq_zero.2 fun a ha e => h2 a ha (of_decide_eq_true e)
  omega
theorem waits_le (D : List Rl) (S : SS) (r : Nat) (hl : D.length + tot (D.map Rl.rd) ≤ 1048576) : waits D S r ≤ 1048576 := by
  unfold waits
  have h1 := List.countP_le_length (p := fun a => decide (S.val.getD a 0 = 1)) (l := (D.getD r rl0).all)
  have h2 := List.countP_le_length (p := fun a => decide (S.val.getD a 0 = 1)) (l := (D.getD r rl0).unl)
  by_cases hr : r < D.length
  · have := totD D r hr
    have := tot_take_le (D.map Rl.rd) (r + 1)
    omega
  · have e : D.getD r rl0 = rl0 := by rw [List.getD_eq_getElem?_getD, List.getElem?_eq_none (by omega)]; rfl
    rw [e] at h1 h2 ⊢
    show 0 + 0 ≤ _
    omega
theorem count_addAll (t : List (List Nat)) (r : Nat) (qs : List Nat) (hq : ∀ q ∈ qs, q < t.length) (b x : Nat) : ((addAll t r qs).getD b []).count x = (t.getD b []).count x + (if x = r then qs.count b else 0) := by
  unfold addAll
  induction qs generalizing t with
  | nil => simp
  | cons a qs ih =>
    rw [List.foldl_cons, ih _ (fun q hq' => by rw [addTo_len]; exact hq q (List.mem_cons_of_mem _ hq')), addTo_getD]
    have ha := hq a (List.mem_cons_self ..)
    rw [List.count_cons]
    by_cases hab : a = b
    · subst hab
      rw [if_pos ⟨rfl, ha⟩, List.count_append, List.count_singleton]
      by_cases hx : x = r
      · subst hx
        simp only [if_true, beq_self_eq_true]
        omega
      · have : (r == x) = false := by simpa using Ne.symm hx
        rw [if_neg hx, if_neg hx, this]
        rfl
    · have : (a == b) = false := by simpa using hab
      rw [if_neg (fun h => hab h.1), this]
      simp only [Bool.false_eq_true, if_false, Nat.add_zero]
theorem count_idxU (D : List Rl) (n k : Nat) (hk : k ≤ D.length) (hok : Okay n D) (a r : Nat) : ((idxU D n k).getD a []).count r = if r < k then (D.getD r rl0).all.count a else 0 := by
  induction k with
  | zero => rw [idxU, getD_rep]; simp
  | succ k ih =>
    rw [idxU, count_addAll _ _ _ (fun q hq => by rw [idxU_len]; exact (hok _ (getD_mem rl0 (show k < D.length by omega))).2.1 q hq), ih (by omega)]
    by_cases hr : r = k
    · subst hr; rw [if_neg (by omega), if_pos rfl, if_pos (by omega)]; omega
    · rw [if_neg hr]
      by_cases hlt : r < k
      · rw [if_pos hlt, if_pos (by omega)]; omega
      · rw [if_neg hlt, if_neg (by omega)]
theorem count_idxE (D : List Rl) (n k : Nat) (hk : k ≤ D.length) (hok : Okay n D) (a r : Nat) : ((idxE D n k).getD a []).count r = if r < k then (D.getD r rl0).unl.count a else 0 := by
  induction k with
  | zero => rw [idxE, getD_rep]; simp
  | succ k ih =>
    rw [idxE, count_addAll _ _ _ (fun q hq => by rw [idxE_len]; exact (hok _ (getD_mem rl0 (show k < D.length by omega))).2.2 q hq), ih (by omega)]
    by_cases hr : r = k
    · subst hr; rw [if_neg (by omega), if_pos rfl, if_pos (by omega)]; omega
    · rw [if_neg hr]
      by_cases hlt : r < k
      · rw [if_pos hlt, if_pos (by omega)]; omega
      · rw [if_neg hlt, if_neg (by omega)]
theorem nodup_idxH (D : List Rl) (n k : Nat) (hk : k ≤ D.length) (hok : Okay n D) (a : Nat) : ((idxH D n k).getD a []).Nodup := by
  induction k with
  | zero => rw [idxH, getD_rep]; exact List.nodup_nil
  | succ k ih =>
    rw [idxH, addTo_getD]
    split
    · rw [List.nodup_append]
      refine ⟨ih (by omega), by simp, fun x hx y hy => ?_⟩
      have h1 := ((mem_idxH D n k (by omega) hok a x).1 hx).1
      have h2 : y = k := by simpa using hy
      omega
    · exact ih (by omega)
theorem countP_map_fst (l : List Nat) (b : Bool) (r : Nat) : (l.map (fun x => (x, b))).countP (fun e => decide (e.1 = r)) = l.count r := by
  induction l with
  | nil => rfl
  | cons x l ih =>
    rw [List.map_cons, List.countP_cons, List.count_cons, ih]
    by_cases hx : x = r
    · subst hx; simp
    · simp [hx]
theorem cntE_evts (D : List Rl) (n : Nat) (hok : Okay n D) (S : SS) (a r : Nat) (hr : r < D.length) : cntE r (evts D n S a) = occ D a r := by
  unfold cntE evts occ
  rw [List.countP_append, countP_map_fst, countP_map_fst, count_idxU D n D.length (Nat.le_refl _) hok, count_idxE D n D.length (Nat.le_refl _) hok, if_pos hr, if_pos hr]
theorem cntE_pos {r : Nat} {b : Bool} {evs : List (Nat × Bool)} (h : (r, b) ∈ evs) : 0 < cntE r evs := List.countP_pos_iff.2 ⟨_, h, decide_eq_true rfl⟩
theorem pendQ_pos {D : List Rl} {q : List Nat} {a r : Nat} (h : a ∈ q) (ho : 0 < occ D a r) : 0 < pendQ D q r := by
  have : occ D a r ≤ pendQ D q r := le_sum (List.mem_map.2 ⟨a, h, rfl⟩)
  omega
theorem pendQ_snoc (D : List Rl) (q : List Nat) (a r : Nat) : pendQ D (q ++ [a]) r = pendQ D q r + occ D a r := by
  unfold pendQ
  rw [List.map_append, List.sum_append]
  simp
theorem occ_all {D : List Rl} {a r : Nat} (h : a ∈ (D.getD r rl0).all) : 0 < occ D a r := by
  have := List.count_pos_iff.2 h
  unfold occ
  omega
theorem occ_unl {D : List Rl} {a r : Nat} (h : a ∈ (D.getD r rl0).unl) : 0 < occ D a r := by
  have := List.count_pos_iff.2 h
  unfold occ
  omega
/-- How many rules of an atom are open. -/
def openN (D : List Rl) (n : Nat) (S : SS) (a : Nat) : Nat := ((idxH D n D.length).getD a []).countP (fun r => !S.closed.getD r false)
theorem countP_close (l : List Nat) (bs : List Bool) (r : Nat) (hnd : l.Nodup) (hr : r ∈ l) (hlt : r < bs.length) (hc : bs.getD r false = false) :
    l.countP (fun x => !(bs.set r true).getD x false) + 1 = l.countP (fun x => !bs.getD x false) := by
  induction l with
  | nil => cases hr
  | cons x l ih =>
    rw [List.nodup_cons] at hnd
    rw [List.countP_cons, List.countP_cons]
    by_cases hx : x = r
    · subst hx
      rw [getD_set_eq _ _ _ _ hlt, hc]
      have e : l.countP (fun y => !(bs.set x true).getD y false) = l.countP (fun y => !bs.getD y false) := by
        apply List.countP_congr
        intro y hy
        rw [getD_set_ne' _ _ _ _ _ (fun e => hnd.1 (by rw [e]; exact hy))]
      rw [e]
      simp
    · have h1 := ih hnd.2 ((List.mem_cons.1 hr).resolve_left (Ne.symm hx))
      rw [getD_set_ne' _ _ _ _ _ (Ne.symm hx)]
      omega
/-! ### The invariant -/
structure Lens (n : Nat) (D : List Rl) (S : SS) : Prop where
  nval : S.val.length = n
  npart : S.part.length = n
  nsource : S.source.length = n
  nopn : S.opn.length = n
  nwait : S.wait.length = D.length
  nclosed : S.closed.length = D.length
  nneed : S.need.length = D.length
/-- What is true, what is not false: for the soundness. -/
structure TU (D : List Rl) (n : Nat) (T U : Nat → Prop) : Prop where
  hT : ∀ r, r < D.length → (∀ a ∈ (D.getD r rl0).all, T a) → (∀ b ∈ (D.getD r rl0).unl, ¬ U b) → T (D.getD r rl0).head
  hU : ∀ X : Nat → Prop, (∀ a, X a → a < n ∧ ∀ r, r < D.length → (D.getD r rl0).head = a → (∃ b ∈ (D.getD r rl0).all, X b ∨ ¬ U b) ∨ ∃ b ∈ (D.getD r rl0).unl, T b) → ∀ a, X a → ¬ U a
def CR (D : List Rl) (A : List Nat) (r : Nat) : Prop := r < D.length ∧ (D.getD r rl0).head ∈ A
structure CoreP (P : Nat → Prop) (D : List Rl) (n k : Nat) (A : List Nat) (T U : Nat → Prop) (S : SS) (evs : List (Nat × Bool)) : Prop where
  len : Lens n D S
  prt : ∀ x, x < n → (S.part.getD x 0 = (k : Int) ↔ x ∈ A)
  v3 : ∀ x, x < n → S.val.getD x 0 = 0 ∨ S.val.getD x 0 = 1 ∨ S.val.getD x 0 = 2
  qn : ∀ a ∈ S.queue, a ∈ A ∧ S.val.getD a 0 ≠ 1
  W : ∀ r, CR D A r → S.closed.getD r false = false → S.wait.getD r 0 = ((waits D S r + pendQ D S.queue r + cntE r evs : Nat) : Int)
  Z1 : ∀ r, CR D A r → S.closed.getD r false = false → (D.getD r rl0).head ∉ (D.getD r rl0).all
  Z2 : ∀ r, CR D A r → S.closed.getD r false = false → ∀ a ∈ (D.getD r rl0).all, S.val.getD a 0 = 0 → a ∈ S.queue ∨ (r, false) ∈ evs
  Z3 : ∀ r, CR D A r → S.closed.getD r false = false → ∀ a ∈ (D.getD r rl0).unl, S.val.getD a 0 = 2 → a ∈ S.queue ∨ (r, false) ∈ evs
  C : ∀ r, CR D A r → S.closed.getD r false = true → (D.getD r rl0).head ∈ (D.getD r rl0).all ∨ (∃ a ∈ (D.getD r rl0).all, S.val.getD a 0 = 0) ∨ ∃ a ∈ (D.getD r rl0).unl, S.val.getD a 0 = 2
  O : ∀ a ∈ A, S.opn.getD a 0 = (openN D n S a : Int)
  K1 : ∀ r, CR D A r → P r → S.closed.getD r false = false → S.wait.getD r 0 = 0 → S.val.getD (D.getD r rl0).head 0 ≠ 1
  Ev : ∀ e ∈ evs, e.1 < D.length ∧ (e.2 = false → (∃ a ∈ (D.getD e.1 rl0).all, S.val.getD a 0 = 0) ∨ ∃ a ∈ (D.getD e.1 rl0).unl, S.val.getD a 0 = 2)
  wb : ∀ r, r < D.length → 0 ≤ S.wait.getD r 0 ∧ S.wait.getD r 0 ≤ 2000000
  ob : ∀ a, a < n → 0 ≤ S.opn.getD a 0 ∧ S.opn.getD a 0 ≤ 2000000
  nb : ∀ r, r < D.length → 0 ≤ S.need.getD r 0 ∧ S.need.getD r 0 ≤ 2000000
  s2 : ∀ a, a < n → S.val.getD a 0 = 2 → T a
  s0 : ∀ a, a < n → S.val.getD a 0 = 0 → ¬ U a
  supp : ∀ Y : Nat → Prop, (∀ r, r < D.length → (∀ a ∈ (D.getD r rl0).all, S.val.getD a 0 = 2 ∧ Y a) → (∀ b ∈ (D.getD r rl0).unl, S.val.getD b 0 = 0) → Y (D.getD r rl0).head) → ∀ a, a < n → S.val.getD a 0 = 2 → Y a
abbrev Krn (D : List Rl) (n k : Nat) (A : List Nat) (T U : Nat → Prop) (S : SS) (evs : List (Nat × Bool)) : Prop := CoreP (fun _ => True) D n k A T U S evs
section
variable {P : Nat → Prop} {D : List Rl} {n k : Nat} {A : List Nat} {T U : Nat → Prop} {S : SS} {evs : List (Nat × Bool)}
/-- Sources and losses do not matter here. -/
theorem CoreP.src (h : CoreP P D n k A T U S evs) (src : List Int) (hs : src.length = n) (lost : List Nat) : CoreP P D n k A T U { S with source := src, lost := lost } evs :=
  ⟨⟨h.len.nval, h.len.npart, hs, h.len.nopn, h.len.nwait, h.len.nclosed, h.len.nneed⟩, h.prt, h.v3, h.qn, h.W, h.Z1, h.Z2, h.Z3, h.C, h.O, h.K1, h.Ev, h.wb, h.ob, h.nb, h.s2, h.s0, h.supp⟩
theorem CoreP.dec (h : CoreP P D n k A T U S evs) (hA : ∀ x ∈ A, x < n) {a : Nat} (ha : a ∈ A) {t : Int} (ht : t = 0 ∨ t = 2) (h0 : t = 0 → ¬ U a)
    (h2 : t = 2 → T a ∧ ∃ r, r < D.length ∧ (D.getD r rl0).head = a ∧ (∀ b ∈ (D.getD r rl0).all, S.val.getD b 0 = 2) ∧ ∀ b ∈ (D.getD r rl0).unl, S.val.getD b 0 = 0) : CoreP P D n k A T U (decideF S a t) evs := by
  unfold decideF
  by_cases hv : S.val.getD a 0 = 1
  · rw [if_pos hv]
    have han := hA a ha
    have hal : a < S.val.length := by rw [h.len.nval]; exact han
    have ht1 : t ≠ 1 := by omega
    have hs : (S.val.set a t).getD a 0 = t := getD_set_eq _ _ _ _ hal
    have hn : ∀ x, x ≠ a → (S.val.set a t).getD x 0 = S.val.getD x 0 := fun x hx => getD_set_ne' _ _ _ _ _ (Ne.symm hx)
    have keep : ∀ x v, v ≠ 1 → S.val.getD x 0 = v → (S.val.set a t).getD x 0 = v := fun x v hv1 e => by
      rw [hn x (fun hx => by rw [hx, hv] at e; exact hv1 e.symm)]; exact e
    have keepE : ∀ r, ((∃ a ∈ (D.getD r rl0).all, S.val.getD a 0 = 0) ∨ ∃ a ∈ (D.getD r rl0).unl, S.val.getD a 0 = 2) → (∃ x ∈ (D.getD r rl0).all, (S.val.set a t).getD x 0 = 0) ∨ ∃ x ∈ (D.getD r rl0).unl, (S.val.set a t).getD x 0 = 2 := by
      rintro r (⟨x, hx, e⟩ | ⟨x, hx, e⟩)
      · exact .inl ⟨x, hx, keep x 0 (by decide) e⟩
      · exact .inr ⟨x, hx, keep x 2 (by decide) e⟩
    constructor
    · exact ⟨by simpa using h.len.nval, h.len.npart, h.len.nsource, h.len.nopn, h.len.nwait, h.len.nclosed, h.len.nneed⟩
    · exact h.prt
    · intro x hx
      show (S.val.set a t).getD x 0 = 0 ∨ (S.val.set a t).getD x 0 = 1 ∨ (S.val.set a t).getD x 0 = 2
      by_cases hxa : x = a
      · subst hxa; rw [hs]; exact ht.elim .inl (fun e => .inr (.inr e))
      · rw [hn x hxa]; exact h.v3 x hx
    · intro x hx
      show x ∈ A ∧ (S.val.set a t).getD x 0 ≠ 1
      by_cases hxa : x = a
      · subst hxa; rw [hs]; exact ⟨ha, ht1⟩
      · rw [hn x hxa]
        rcases List.mem_append.1 hx with hx | hx
        · exact h.qn x hx
        · exact absurd (by simpa using hx) hxa
    · intro r hr hc
      have hw := h.W r hr hc
      have hws := waits_set D S a t ht1 hv (S.queue ++ [a]) r
      show S.wait.getD r 0 = ((waits D { S with val := S.val.set a t, queue := S.queue ++ [a] } r + pendQ D (S.queue ++ [a]) r + cntE r evs : Nat) : Int)
      rw [pendQ_snoc, hw]
      omega
    · exact h.Z1
    · intro r hr hc x hx he
      show x ∈ S.queue ++ [a] ∨ _
      by_cases hxa : x = a
      · left; rw [hxa]; simp
      · have he : (S.val.set a t).getD x 0 = 0 := he
        rw [hn x hxa] at he
        rcases h.Z2 r hr hc x hx he with h1 | h1
        · exact .inl (List.mem_append_left _ h1)
        · exact .inr h1
    · intro r hr hc x hx he
      show x ∈ S.queue ++ [a] ∨ _
      by_cases hxa : x = a
      · left; rw [hxa]; simp
      · have he : (S.val.set a t).getD x 0 = 2 := he
        rw [hn x hxa] at he
        rcases h.Z3 r hr hc x hx he with h1 | h1
        · exact .inl (List.mem_append_left _ h1)
        · exact .inr h1
    · intro r hr hc
      rcases h.C r hr hc with h1 | h1
      · exact .inl h1
      · exact .inr (keepE r h1)
    · exact h.O
    · intro r hr hP hc hw
      show (S.val.set a t).getD _ 0 ≠ 1
      by_cases hxa : (D.getD r rl0).head = a
      · rw [hxa, hs]; exact ht1
      · rw [hn _ hxa]; exact h.K1 r hr hP hc hw
    · intro e he
      exact ⟨(h.Ev e he).1, fun hf => keepE _ ((h.Ev e he).2 hf)⟩
    · exact h.wb
    · exact h.ob
    · exact h.nb
    · intro x hx he
      have he : (S.val.set a t).getD x 0 = 2 := he
      by_cases hxa : x = a
      · subst hxa; rw [hs] at he; exact (h2 he).1
      · rw [hn x hxa] at he; exact h.s2 x hx he
    · intro x hx he
      have he : (S.val.set a t).getD x 0 = 0 := he
      by_cases hxa : x = a
      · subst hxa; rw [hs] at he; exact h0 he
      · rw [hn x hxa] at he; exact h.s0 x hx he
    · intro Y hY x hx he
      have he : (S.val.set a t).getD x 0 = 2 := he
      have hold : ∀ x, x < n → S.val.getD x 0 = 2 → Y x := h.supp Y (fun r hr h3 h4 => hY r hr (fun b hb => ⟨keep b 2 (by decide) (h3 b hb).1, (h3 b hb).2⟩) (fun b hb => keep b 0 (by decide) (h4 b hb)))
      by_cases hxa : x = a
      · subst hxa
        rw [hs] at he
        obtain ⟨-, r, hr, hrh, h3, h4⟩ := h2 he
        rw [← hrh]
        refine hY r hr (fun b hb => ⟨keep b 2 (by decide) (h3 b hb), ?_⟩) (fun b hb => keep b 0 (by decide) (h4 b hb))
        by_cases hbl : b < n
        · exact hold b hbl (h3 b hb)
        · have := h3 b hb
          rw [List.getD_eq_getElem?_getD, List.getElem?_eq_none (by rw [h.len.nval]; omega)] at this
          cases this
      · rw [hn x hxa] at he
        exact hold x hx he
  · rw [if_neg hv]; exact h
end
end Go.Proofs.Qxb6600121a
