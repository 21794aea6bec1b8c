/-
  MARKS AND A STACK: as a plain law, and in memory (the walk of zzReach leans on it).
-/
import Derived.Test.Qxb6600121aFin
namespace Go.Proofs.Qxb6600121a
open Go
theorem mem_addAll (t : List (List Nat)) (r : Nat) (qs : List Nat) (hq : ∀ q ∈ qs, q < t.length) (b x : Nat) : x ∈ (addAll t r qs).getD b [] ↔ x ∈ t.getD b [] ∨ (x = r ∧ b ∈ qs) := by
  unfold addAll
  induction qs generalizing t with
  | nil => simp
  | cons a qs ih =>
    rw [List.foldl_cons, ih _ (fun q hq' => by rw [addTo_len]; exact hq q (List.mem_cons_of_mem _ hq')), addTo_getD]
    have ha := hq a (List.mem_cons_self ..)
    by_cases hab : a = b
    · subst hab
      rw [if_pos ⟨rfl, ha⟩, List.mem_append, List.mem_singleton]
      simp only [List.mem_cons, true_or, and_true]
      constructor
      · rintro ((h | h) | h)
        · exact .inl h
        · exact .inr h
        · exact .inr h.1
      · rintro (h | h)
        · exact .inl (.inl h)
        · exact .inl (.inr h)
    · rw [if_neg (fun h => hab h.1)]
      simp only [List.mem_cons]
      constructor
      · rintro (h | h)
        · exact .inl h
        · exact .inr ⟨h.1, .inr h.2⟩
      · rintro (h | ⟨h1, h2 | h2⟩)
        · exact .inl h
        · exact absurd h2.symm hab
        · exact .inr ⟨h1, h2⟩
theorem mem_idxU (D : List Rl) (n k : Nat) (hk : k ≤ D.length) (hok : Okay n D) (a r : Nat) : r ∈ (idxU D n k).getD a [] ↔ r < k ∧ a ∈ (D.getD r rl0).all := by
  induction k with
  | zero => rw [idxU, getD_rep]; simp
  | succ k ih =>
    rw [idxU, mem_addAll _ _ _ (fun q hq => by rw [idxU_len]; exact (hok _ (getD_mem rl0 (show k < D.length by omega))).2.1 q hq), ih (by omega)]
    constructor
    · rintro (⟨h1, h2⟩ | ⟨h1, h2⟩)
      · exact ⟨by omega, h2⟩
      · subst h1; exact ⟨by omega, h2⟩
    · rintro ⟨h1, h2⟩
      by_cases hr : r = k
      · subst hr; exact .inr ⟨rfl, h2⟩
      · exact .inl ⟨by omega, h2⟩
theorem mem_idxE (D : List Rl) (n k : Nat) (hk : k ≤ D.length) (hok : Okay n D) (a r : Nat) : r ∈ (idxE D n k).getD a [] ↔ r < k ∧ a ∈ (D.getD r rl0).unl := by
  induction k with
  | zero => rw [idxE, getD_rep]; simp
  | succ k ih =>
    rw [idxE, mem_addAll _ _ _ (fun q hq => by rw [idxE_len]; exact (hok _ (getD_mem rl0 (show k < D.length by omega))).2.2 q hq), ih (by omega)]
    constructor
    · rintro (⟨h1, h2⟩ | ⟨h1, h2⟩)
      · exact ⟨by omega, h2⟩
      · subst h1; exact ⟨by omega, h2⟩
    · rintro ⟨h1, h2⟩
      by_cases hr : r = k
      · subst hr; exact .inr ⟨rfl, h2⟩
      · exact .inl ⟨by omega, h2⟩
/-- How many are not marked. -/
def unm : List Bool → Nat
  | [] => 0
  | b :: bs => (if b then 0 else 1) + unm bs
theorem unm_le (bs : List Bool) : unm bs ≤ bs.length := by
  induction bs with
  | nil => exact Nat.le_refl _
  | cons b bs ih => rw [unm, List.length_cons]; split <;> omega
theorem unm_set (bs : List Bool) (d : Nat) (hd : d < bs.length) (h : bs.getD d false = false) : unm (bs.set d true) + 1 = unm bs := by
  induction bs generalizing d with
  | nil => cases hd
  | cons b bs ih =>
    cases d with
    | zero =>
      have h : b = false := h
      subst h
      rw [List.set_cons_zero, unm, unm]
      simp; omega
    | succ d =>
      rw [List.set_cons_succ, unm, unm]
      have := ih d (by simpa using hd) (by simpa using h)
      omega
theorem mark_mono (bs : List Bool) (d x : Nat) (h : bs.getD x false = true) : (bs.set d true).getD x false = true := by
  by_cases hx : d = x
  · subst hx
    by_cases hl : d < bs.length
    · exact getD_set_eq _ _ _ _ hl
    · rw [List.getD_eq_getElem?_getD, List.getElem?_eq_none (by omega)] at h; cases h
  · rw [getD_set_ne' _ _ _ _ _ hx]; exact h
structure RI (n k root : Nat) (cs : List Nat) (E : Nat → Nat → Prop) (bs0 bs : List Bool) (st : List Nat) (X : Nat → Prop) : Prop where
  len : bs.length = n
  lt : ∀ y ∈ st, y < n
  keep : ∀ x, cs.getD x 0 ≠ k → bs.getD x false = bs0.getD x false
  clo : ∀ x, x < n → cs.getD x 0 = k → bs.getD x false = true → x ∈ st ∨ X x ∨ ∀ d, E x d → d < n → cs.getD d 0 = k → bs.getD d false = true
  root : bs.getD root false = true
  m : unm bs + st.length ≤ n
section
variable {n k root : Nat} {cs : List Nat} {E : Nat → Nat → Prop} {bs0 bs : List Bool} {st : List Nat} {X : Nat → Prop}
theorem RI.mark (h : RI n k root cs E bs0 bs st X) {d : Nat} (hd : d < n) (hk : cs.getD d 0 = k) (hf : bs.getD d false = false) : RI n k root cs E bs0 (bs.set d true) (d :: st) X := by
  have hm := unm_set bs d (by rw [h.len]; exact hd) hf
  refine ⟨by simp [h.len], ?_, ?_, ?_, mark_mono _ _ _ h.root, ?_⟩
  · intro y hy
    rcases List.mem_cons.1 hy with rfl | hy
    · exact hd
    · exact h.lt y hy
  · intro x hx
    rw [getD_set_ne' _ d x _ _ (fun e => hx (by rw [← e]; exact hk))]; exact h.keep x hx
  · intro x hx hxk hxm
    by_cases hxd : x = d
    · exact .inl (by rw [hxd]; exact List.mem_cons_self ..)
    · rw [getD_set_ne' _ _ _ _ _ (Ne.symm hxd)] at hxm
      rcases h.clo x hx hxk hxm with h1 | h1 | h1
      · exact .inl (List.mem_cons_of_mem _ h1)
      · exact .inr (.inl h1)
      · exact .inr (.inr fun e he1 he2 he3 => mark_mono _ _ _ (h1 e he1 he2 he3))
  · have := h.m
    rw [List.length_cons]
    omega
theorem RI.popX (h : RI n k root cs E bs0 bs st (fun _ => False)) {x : Nat} {st' : List Nat} (hst : st = x :: st') : RI n k root cs E bs0 bs st' (fun y => y = x) := by
  subst hst
  refine ⟨h.len, fun y hy => h.lt y (List.mem_cons_of_mem _ hy), h.keep, ?_, h.root, by have := h.m; rw [List.length_cons] at this; omega⟩
  intro y hy hyk hym
  rcases h.clo y hy hyk hym with h1 | h1 | h1
  · rcases List.mem_cons.1 h1 with h2 | h2
    · exact .inr (.inl h2)
    · exact .inl h2
  · exact h1.elim
  · exact .inr (.inr h1)
theorem RI.doneX {x : Nat} (h : RI n k root cs E bs0 bs st (fun y => y = x)) (hx : ∀ d, E x d → cs.getD d 0 = k → bs.getD d false = true) : RI n k root cs E bs0 bs st (fun _ => False) := by
  refine ⟨h.len, h.lt, h.keep, ?_, h.root, h.m⟩
  intro y hy hyk hym
  rcases h.clo y hy hyk hym with h1 | h1 | h1
  · exact .inl h1
  · subst h1
    exact .inr (.inr fun d h2 _ h3 => hx d h2 h3)
  · exact .inr (.inr h1)
theorem RI.reach (h : RI n k root cs E bs0 bs [] (fun _ => False)) (hr : root < n) (hrk : cs.getD root 0 = k) {y : Nat} (hy : Rch E (fun z => z < n ∧ cs.getD z 0 = k) root y) : bs.getD y false = true := by
  have := hy (fun z => z < n ∧ cs.getD z 0 = k ∧ bs.getD z false = true) ⟨hr, hrk, h.root⟩ (by
    rintro z z' ⟨h1, h2, h3⟩ he ⟨h4, h5⟩
    refine ⟨h4, h5, ?_⟩
    rcases h.clo z h1 h2 h3 with h6 | h6 | h6
    · cases h6
    · exact h6.elim
    · exact h6 z' he h4 h5)
  exact this.2.2
def MkL (cs : List Nat) (k : Nat) (bs : List Bool) (l : List Nat) : Prop := ∀ d ∈ l, cs.getD d 0 = k → bs.getD d false = true
theorem MkL.nil : MkL cs k bs [] := fun d hd => by cases hd
theorem MkL.mono {l : List Nat} (h : MkL cs k bs l) (d : Nat) : MkL cs k (bs.set d true) l := fun x hx hk => mark_mono _ _ _ (h x hx hk)
theorem MkL.app {l l' : List Nat} (h : MkL cs k bs l) (h' : MkL cs k bs l') : MkL cs k bs (l ++ l') := fun x hx hk => (List.mem_append.1 hx).elim (fun h1 => h x h1 hk) (fun h1 => h' x h1 hk)
theorem take_succ_getD {α : Type} (l : List α) (j : Nat) (d : α) (h : j < l.length) : l.take (j + 1) = l.take j ++ [l.getD j d] := by
  rw [List.take_succ_eq_append_getElem h]
  simp [h]
theorem MkL.snoc {l : List Nat} {j : Nat} (h : MkL cs k bs (l.take j)) (hj : j < l.length) (hd : cs.getD (l.getD j 0) 0 = k → bs.getD (l.getD j 0) false = true) : MkL cs k bs (l.take (j + 1)) := by
  rw [take_succ_getD l j 0 hj]
  refine h.app fun x hx hk => ?_
  have : x = l.getD j 0 := by simpa using hx
  rw [this] at hk ⊢
  exact hd hk
theorem MkL.snocF {l : List Nat} {j : Nat} {F : Nat → List Nat} (h : MkL cs k bs ((l.take j).flatMap F)) (hj : j < l.length) (hd : MkL cs k bs (F (l.getD j 0))) : MkL cs k bs ((l.take (j + 1)).flatMap F) := by
  rw [take_succ_getD l j 0 hj, List.flatMap_append]
  exact h.app (by simpa using hd)
end
/-! ### In memory -/
structure RM (h : Array Obj) (s m : Nat) (bs : List Bool) (sv : Value) (st : List Nat) : Prop where
  mrk : Blk h m 4 (bools bs)
  row : Row h 3 1 sv st.length (nats st.reverse)
  own : ∀ g, sv.ownBlock = some g → s ≤ g
theorem Row.top {h : Array Obj} {sv : Value} {x : Nat} {st : List Nat} (hr : Row h 3 1 sv (x :: st).length (nats (x :: st).reverse)) :
    ∃ g c, sv = .slice (some ⟨g, 0, none⟩) (st.length + 1) c ∧ st.length + 1 ≤ c ∧ cel h g st.length = some (.int .i64 (x : Int)) := by
  obtain ⟨g, cap, cs, h1, h2, h3, h4, h5, h6⟩ := hr.blk (by simp)
  rw [List.length_cons] at h1 h2 h6
  refine ⟨g, cap, h1, h2, ?_⟩
  rw [h4.cel]
  have h7 : (cs.take ((st.length + 1) * 1))[st.length]? = cs[st.length]? := by rw [List.getElem?_take, if_pos (by omega)]
  rw [← h7, h6, List.reverse_cons, nats, List.map_append, List.getElem?_append_right (by simp)]
  simp
theorem Row.popN {h : Array Obj} {a : Option Addr} {c x : Nat} {st : List Nat} (hr : Row h 3 1 (.slice a (st.length + 1) c) (x :: st).length (nats (x :: st).reverse)) : Row h 3 1 (.slice a st.length c) st.length (nats st.reverse) := by
  have := Row.take hr (m := st.length) (by simp)
  have e : (nats (x :: st).reverse).take (st.length * 1) = nats st.reverse := by
    rw [List.reverse_cons, nats, List.map_append, List.take_append_of_le_length (by simp), nats, Nat.mul_one]
    rw [List.take_of_length_le (by simp)]
  rw [e] at this
  exact this
theorem RM.popM {h : Array Obj} {s m x c : Nat} {bs : List Bool} {a : Option Addr} {st : List Nat} (hr : RM h s m bs (.slice a (st.length + 1) c) (x :: st)) : RM h s m bs (.slice a st.length c) st :=
  ⟨hr.mrk, hr.row.popN, fun g hg => hr.own g (by cases a <;> exact hg)⟩
theorem RM.push {w1 w2 w3 w4 : World} {s m d : Nat} {bs : List Bool} {sv v' : Value} {st : List Nat} (hr : RM w1.heap s m bs sv st) (hm : m < s) (hs : s ≤ w1.heap.size)
    (u2 : Upd w1 w2 m 4 ((bools bs).set d (.bool true))) (h3 : Newb w2 w3 3 [.int .i64 (d : Int)]) (hrow : Row w4.heap 3 1 v' (st.length + 1) (nats st.reverse ++ [.int .i64 (d : Int)]))
    (h34 : Fr (fun g => sv.ownBlock = some g) w3 w4) (hat : v'.ownBlock = sv.ownBlock ∨ v'.ownBlock = some w3.heap.size) : RM w4.heap s m (bs.set d true) v' (d :: st) := by
  refine ⟨?_, ?_, ?_⟩
  · have h1 := u2.blk
    rw [bools_set] at h1
    exact (h1.fr h3.fr (fun h => h)).fr h34 (fun e => by have := hr.own m e; omega)
  · rw [List.length_cons, List.reverse_cons, nats, List.map_append]
    exact hrow
  · intro g hg
    rcases hat with h1 | h1
    · exact hr.own g (by rw [← h1]; exact hg)
    · rw [h1] at hg
      have : w3.heap.size = g := by simpa using hg
      have := h3.size
      have := u2.size
      omega
theorem RM.frPush {w w1 w2 w3 w4 : World} {m d : Nat} {bs : List Bool} {sv : Value} {st : List Nat} (hr : RM w1.heap w.heap.size m bs sv st) (hf : Fr (fun g => g = m) w w1)
    (u2 : Upd w1 w2 m 4 ((bools bs).set d (.bool true))) (h3 : Newb w2 w3 3 [.int .i64 (d : Int)]) (h34 : Fr (fun g => sv.ownBlock = some g) w3 w4) : Fr (fun g => g = m) w w4 :=
  ((hf.step u2.fr (fun _ _ h e => h e)).newb h3).step h34 (fun i hi _ e => by have := hr.own i e; omega)
end Go.Proofs.Qxb6600121a
