/-
  THE PLAIN LAW OF zzLeast (6).
-/
import Derived.Test.Qxb6600121aLaw10
namespace Go.Proofs.Qxb6600121a
open Go
section
variable {D : List Rl} {n r : Nat} {J : Nat → Prop} {d blk blk' : List Bool} {cnt : List Int} {q dn us : List Nat}
/-- While the rules are counted: those below r are done. -/
structure LI (D : List Rl) (n : Nat) (J : Nat → Prop) (r : Nat) (d blk : List Bool) (cnt : List Int) (q : List Nat) : Prop where
  dl : d.length = n
  bl : blk.length = D.length
  cl : cnt.length = D.length
  nd : q.Nodup
  lt : ∀ a ∈ q, a < n
  dq : ∀ a, a < n → (d.getD a false = true ↔ a ∈ q)
  snd : ∀ a ∈ q, Lst D J a
  b1 : ∀ i, i < r → (blk.getD i false = true ↔ ∃ b ∈ (D.getD i rl0).unl, J b)
  b0 : ∀ i, r ≤ i → blk.getD i false = false
  c : ∀ i, i < r → cnt.getD i 0 = (((D.getD i rl0).all.length : Nat) : Int)
  K : ∀ i, i < r → blk.getD i false = false → (D.getD i rl0).all = [] → (D.getD i rl0).head ∈ q
theorem getD_repF (m i : Nat) : (List.replicate m false).getD i false = false := getD_rep _ _ _
theorem li0 : LI D n J 0 (List.replicate n false) (List.replicate D.length false) (List.replicate D.length 0) [] :=
  ⟨by simp, by simp, by simp, List.nodup_nil, fun a ha => (by cases ha), fun a _ => by rw [getD_repF]; simp, fun a ha => (by cases ha), fun i hi => absurd hi (Nat.not_lt_zero _), fun i _ => getD_repF _ _, fun i hi => absurd hi (Nat.not_lt_zero _), fun i hi => absurd hi (Nat.not_lt_zero _)⟩
theorem LI.push (hok : Okay n D) (h : LI D n J r d blk cnt q) (hr : r < D.length) (hl : blk'.length = D.length) (hs : ∀ i, i ≠ r → blk'.getD i false = blk.getD i false) (hb : blk'.getD r false = true ↔ ∃ b ∈ (D.getD r rl0).unl, J b)
    (hb0 : blk'.getD r false = false) (ha : (D.getD r rl0).all = []) (hd : d.getD (D.getD r rl0).head false = false) :
    LI D n J (r + 1) (d.set (D.getD r rl0).head true) blk' (cnt.set r (((D.getD r rl0).all.length : Nat) : Int)) (q ++ [(D.getD r rl0).head]) := by
  have hh := (hok _ (getD_mem rl0 hr)).1
  have hu : ∀ b ∈ (D.getD r rl0).unl, ¬ J b := fun b hbm hJ => by
    have := hb.2 ⟨b, hbm, hJ⟩
    rw [hb0] at this; cases this
  have hnq : (D.getD r rl0).head ∉ q := fun e => by rw [(h.dq _ hh).2 e] at hd; cases hd
  have hlst : Lst D J (D.getD r rl0).head := Lst.rule hr (fun b hb => by rw [ha] at hb; cases hb) hu
  refine ⟨by rw [List.length_set]; exact h.dl, hl, by rw [List.length_set]; exact h.cl, ?_, fun a hm => ?_, fun a han => ?_, fun a hm => ?_, fun i hi => ?_, fun i hi => by rw [hs i (by omega)]; exact h.b0 i (by omega), fun i hi => ?_, fun i hi hb2 hal => ?_⟩
  · rw [List.nodup_append]
    exact ⟨h.nd, by simp, fun x hx y hy e => by rw [List.mem_singleton] at hy; subst hy; subst e; exact hnq hx⟩
  · rcases List.mem_append.1 hm with h1 | h1
    · exact h.lt a h1
    · rw [List.mem_singleton] at h1; subst h1; exact hh
  · rw [List.mem_append, List.mem_singleton]
    by_cases e : (D.getD r rl0).head = a
    · rw [e, getD_set_eq _ _ _ _ (by rw [h.dl]; exact han)]
      simp
    · rw [getD_set_ne' _ _ _ _ _ e, h.dq a han]
      exact ⟨.inl, fun e2 => e2.elim id (fun e3 => absurd e3.symm e)⟩
  · rcases List.mem_append.1 hm with h1 | h1
    · exact h.snd a h1
    · rw [List.mem_singleton] at h1; subst h1; exact hlst
  · by_cases e : i = r
    · subst e; exact hb
    · rw [hs i e]; exact h.b1 i (by omega)
  · by_cases e : r = i
    · subst e; exact getD_set_eq _ _ _ _ (by rw [h.cl]; exact hr)
    · rw [getD_set_ne' _ _ _ _ _ e]; exact h.c i (by omega)
  · by_cases e : i = r
    · subst e; simp
    · rw [hs i e] at hb2
      exact List.mem_append_left _ (h.K i (by omega) hb2 hal)
theorem LI.pass (hok : Okay n D) (h : LI D n J r d blk cnt q) (hr : r < D.length) (hl : blk'.length = D.length) (hs : ∀ i, i ≠ r → blk'.getD i false = blk.getD i false) (hb : blk'.getD r false = true ↔ ∃ b ∈ (D.getD r rl0).unl, J b)
    (hno : blk'.getD r false = true ∨ (D.getD r rl0).all ≠ [] ∨ d.getD (D.getD r rl0).head false = true) :
    LI D n J (r + 1) d blk' (cnt.set r (((D.getD r rl0).all.length : Nat) : Int)) q := by
  have hh := (hok _ (getD_mem rl0 hr)).1
  refine ⟨h.dl, hl, by rw [List.length_set]; exact h.cl, h.nd, h.lt, h.dq, h.snd, fun i hi => ?_, fun i hi => by rw [hs i (by omega)]; exact h.b0 i (by omega), fun i hi => ?_, fun i hi hb2 hal => ?_⟩
  · by_cases e : i = r
    · subst e; exact hb
    · rw [hs i e]; exact h.b1 i (by omega)
  · by_cases e : r = i
    · subst e; exact getD_set_eq _ _ _ _ (by rw [h.cl]; exact hr)
    · rw [getD_set_ne' _ _ _ _ _ e]; exact h.c i (by omega)
  · by_cases e : i = r
    · subst e
      rcases hno with h1 | h1 | h1
      · rw [hb2] at h1; cases h1
      · exact absurd hal h1
      · exact (h.dq _ hh).1 h1
    · rw [hs i e] at hb2
      exact h.K i (by omega) hb2 hal
theorem LI.len (h : LI D n J r d blk cnt q) : q.length ≤ n := nodup_lt_length h.nd h.lt
/-- While atoms are followed: 'dn' done, 'us' the rest of the row in hand. -/
structure LM (D : List Rl) (n : Nat) (J : Nat → Prop) (blk : List Bool) (d : List Bool) (cnt : List Int) (dn q us : List Nat) : Prop where
  dl : d.length = n
  cl : cnt.length = D.length
  nd : (dn ++ q).Nodup
  lt : ∀ a ∈ dn ++ q, a < n
  dq : ∀ a, a < n → (d.getD a false = true ↔ a ∈ dn ++ q)
  snd : ∀ a ∈ dn ++ q, Lst D J a
  uok : ∀ x ∈ us, x < D.length
  ul : us.length ≤ 1048576
  c : ∀ i, i < D.length → cnt.getD i 0 = (((D.getD i rl0).all.countP (fun b => decide (b ∉ dn)) + us.count i : Nat) : Int)
  K : ∀ i, i < D.length → blk.getD i false = false → cnt.getD i 0 = 0 → (D.getD i rl0).head ∈ dn ++ q
  b : ∀ i, i < D.length → (blk.getD i false = true ↔ ∃ b ∈ (D.getD i rl0).unl, J b)
theorem LI.main (h : LI D n J D.length d blk cnt q) : LM D n J blk d cnt [] q [] := by
  have e : ∀ l : List Nat, l.countP (fun b => decide (b ∉ ([] : List Nat))) = l.length := fun l => by
    rw [List.countP_eq_length]
    intro x _
    simp
  refine ⟨h.dl, h.cl, h.nd, h.lt, h.dq, h.snd, fun x hx => (by cases hx), Nat.zero_le _, fun i hi => ?_, fun i hi hb hc => ?_, h.b1⟩
  · rw [h.c i hi, e]; simp
  · rw [h.c i hi] at hc
    exact h.K i hi hb (List.length_eq_zero_iff.1 (by omega))
theorem countP_pop (l dn : List Nat) (a : Nat) (ha : a ∉ dn) : l.countP (fun b => decide (b ∉ dn)) = l.countP (fun b => decide (b ∉ dn ++ [a])) + l.count a := by
  induction l with
  | nil => rfl
  | cons x l ih =>
    rw [List.countP_cons, List.countP_cons, List.count_cons, ih]
    by_cases hx : x = a
    · subst hx
      rw [if_pos (decide_eq_true ha), if_neg (by simp), if_pos (by simp)]
      omega
    · have h1 : decide (x ∉ dn ++ [a]) = decide (x ∉ dn) := by
        rw [decide_eq_decide]; simp [hx]
      rw [h1, if_neg (show ¬ (x == a) = true by simpa using hx)]
      omega
theorem perm_pop2 (dn st : List Nat) (b : Nat) : (dn ++ [b] ++ st).Perm (dn ++ (st ++ [b])) := by
  rw [List.append_assoc]
  exact List.Perm.append_left dn List.perm_append_comm
theorem LM.pop (hok : Okay n D) (hl : D.length + tot (D.map Rl.rd) ≤ 1048576) {a : Nat} (h : LM D n J blk d cnt dn (q ++ [a]) []) : LM D n J blk d cnt (dn ++ [a]) q ((idxU D n D.length).getD a []) := by
  have hp := perm_pop2 dn q a
  have had : a ∉ dn := by
    intro e
    have := (List.nodup_append.1 h.nd).2.2 a e a (by simp)
    exact this rfl
  refine ⟨h.dl, h.cl, hp.nodup_iff.2 h.nd, fun x hx => h.lt x (hp.mem_iff.1 hx), fun x hx => ?_, fun x hx => h.snd x (hp.mem_iff.1 hx), fun x hx => ?_, ?_, fun i hi => ?_, fun i hi hb hc => hp.mem_iff.2 (h.K i hi hb hc), h.b⟩
  · rw [h.dq x hx, hp.mem_iff]
  · exact ((mem_idxU D n D.length (Nat.le_refl _) hok a x).1 hx).1
  · have h1 := idxU_short D n D.length (Nat.le_refl _) a
    rw [show (D.map Rl.rd).take D.length = D.map Rl.rd by rw [List.take_of_length_le (by simp)]] at h1
    omega
  · rw [h.c i hi, count_idxU D n D.length (Nat.le_refl _) hok, if_pos hi, countP_pop _ dn a had]
    simp
theorem LM.pos {u : Nat} (hl : D.length + tot (D.map Rl.rd) ≤ 1048576) (h : LM D n J blk d cnt dn q (u :: us)) : u < D.length ∧ 1 ≤ cnt.getD u 0 ∧ cnt.getD u 0 ≤ 3000000 := by
  have hu := h.uok u (List.mem_cons_self ..)
  have hc := h.c u hu
  have h1 := List.countP_le_length (p := fun b => decide (b ∉ dn)) (l := (D.getD u rl0).all)
  have h2 : (u :: us).count u ≤ (u :: us).length := List.count_le_length
  have h3 := h.ul
  have h4 := totD D u hu
  have h5 := tot_take_le (D.map Rl.rd) (u + 1)
  rw [List.count_cons_self] at hc h2
  exact ⟨hu, by omega, by omega⟩
theorem LM.keep {u : Nat} (h : LM D n J blk d cnt dn q (u :: us)) : (cnt.set u (cnt.getD u 0 - 1)).length = D.length ∧ (∀ i, i < D.length → (cnt.set u (cnt.getD u 0 - 1)).getD i 0 = (((D.getD i rl0).all.countP (fun b => decide (b ∉ dn)) + us.count i : Nat) : Int)) ∧ ∀ i, u ≠ i → (cnt.set u (cnt.getD u 0 - 1)).getD i 0 = cnt.getD i 0 := by
  have hu := h.uok u (List.mem_cons_self ..)
  have hcu := h.c u hu
  rw [List.count_cons_self] at hcu
  refine ⟨by rw [List.length_set]; exact h.cl, fun i hi => ?_, fun i hi => getD_set_ne' _ _ _ _ _ hi⟩
  by_cases e : u = i
  · subst e
    rw [getD_set_eq _ _ _ _ (by rw [h.cl]; exact hu)]
    omega
  · rw [getD_set_ne' _ _ _ _ _ e, h.c i hi, List.count_cons_of_ne e]
theorem LM.pass (hok : Okay n D) {u : Nat} (h : LM D n J blk d cnt dn q (u :: us)) (hno : cnt.getD u 0 - 1 ≠ 0 ∨ blk.getD u false = true ∨ d.getD (D.getD u rl0).head false = true) : LM D n J blk d (cnt.set u (cnt.getD u 0 - 1)) dn q us := by
  have hu := h.uok u (List.mem_cons_self ..)
  have hh := (hok _ (getD_mem rl0 hu)).1
  obtain ⟨k1, k2, k3⟩ := h.keep
  refine ⟨h.dl, k1, h.nd, h.lt, h.dq, h.snd, fun x hx => h.uok x (List.mem_cons_of_mem _ hx), by have := h.ul; rw [List.length_cons] at this; omega, k2, fun i hi hb hc => ?_, h.b⟩
  by_cases e : u = i
  · subst e
    rw [getD_set_eq _ _ _ _ (by rw [h.cl]; exact hu)] at hc
    rcases hno with h1 | h1 | h1
    · exact absurd hc h1
    · rw [hb] at h1; cases h1
    · exact (h.dq _ hh).1 h1
  · rw [k3 i e] at hc
    exact h.K i hi hb hc
theorem LM.push (hok : Okay n D) {u : Nat} (h : LM D n J blk d cnt dn q (u :: us)) (hc0 : cnt.getD u 0 - 1 = 0) (hb0 : blk.getD u false = false) (hd0 : d.getD (D.getD u rl0).head false = false) :
    LM D n J blk (d.set (D.getD u rl0).head true) (cnt.set u (cnt.getD u 0 - 1)) dn (q ++ [(D.getD u rl0).head]) us := by
  have hu := h.uok u (List.mem_cons_self ..)
  have hh := (hok _ (getD_mem rl0 hu)).1
  obtain ⟨k1, k2, k3⟩ := h.keep
  have hnq : (D.getD u rl0).head ∉ dn ++ q := fun e => by rw [(h.dq _ hh).2 e] at hd0; cases hd0
  have hcu := k2 u hu
  rw [getD_set_eq _ _ _ _ (by rw [h.cl]; exact hu), hc0] at hcu
  have hz : (D.getD u rl0).all.countP (fun b => decide (b ∉ dn)) = 0 := by omega
  rw [List.countP_eq_zero] at hz
  have hl : Lst D J (D.getD u rl0).head := Lst.rule hu (fun b hb => by
      have h1 := hz b hb
      by_cases e : b ∈ dn
      · exact h.snd b (List.mem_append_left _ e)
      · exact absurd (decide_eq_true e) h1) (fun b hb hJ => by
      have := (h.b u hu).2 ⟨b, hb, hJ⟩
      rw [hb0] at this; cases this)
  refine ⟨by rw [List.length_set]; exact h.dl, k1, ?_, fun a hm => ?_, fun a han => ?_, fun a hm => ?_, fun x hx => h.uok x (List.mem_cons_of_mem _ hx), by have := h.ul; rw [List.length_cons] at this; omega, k2, fun i hi hb hc => ?_, h.b⟩
  · rw [← List.append_assoc, List.nodup_append]
    exact ⟨h.nd, by simp, fun x hx y hy e => by rw [List.mem_singleton] at hy; subst hy; subst e; exact hnq hx⟩
  · rw [← List.append_assoc] at hm
    rcases List.mem_append.1 hm with h1 | h1
    · exact h.lt a h1
    · rw [List.mem_singleton] at h1; subst h1; exact hh
  · rw [← List.append_assoc, List.mem_append, List.mem_singleton]
    by_cases e : (D.getD u rl0).head = a
    · rw [e, getD_set_eq _ _ _ _ (by rw [h.dl]; exact han)]
      simp
    · rw [getD_set_ne' _ _ _ _ _ e, h.dq a han]
      exact ⟨.inl, fun e2 => e2.elim id (fun e3 => absurd e3.symm e)⟩
  · rw [← List.append_assoc] at hm
    rcases List.mem_append.1 hm with h1 | h1
    · exact h.snd a h1
    · rw [List.mem_singleton] at h1; subst h1; exact hl
  · rw [← List.append_assoc]
    by_cases e : u = i
    · subst e; exact List.mem_append_right _ (by simp)
    · rw [k3 i e] at hc
      exact List.mem_append_left _ (h.K i hi hb hc)
theorem LM.len (h : LM D n J blk d cnt dn q us) : dn.length + q.length ≤ n := by
  have := nodup_lt_length h.nd h.lt
  rw [List.length_append] at this
  exact this
/-- THE END: what is derived is the least model of the reduct. -/
theorem LM.fin (h : LM D n J blk d cnt dn [] []) {a : Nat} (ha : a < n) : d.getD a false = true ↔ Lst D J a := by
  rw [h.dq a ha]
  constructor
  · exact h.snd a
  · intro hl
    refine hl (fun x => x ∈ dn ++ []) (fun r hr hall hunl => ?_)
    refine h.K r hr ?_ ?_
    · cases hb : blk.getD r false with
      | false => rfl
      | true =>
        obtain ⟨b, h1, h2⟩ := (h.b r hr).1 hb
        exact absurd h2 (hunl b h1)
    · rw [h.c r hr]
      have : (D.getD r rl0).all.countP (fun b => decide (b ∉ dn)) = 0 := List.countP_eq_zero.2 (fun b hb e => of_decide_eq_true e (by simpa using hall b hb))
      rw [this]; rfl
/-! ### The steps of the alternating fixpoint -/
def tS (t : List Bool) (a : Nat) : Prop := t.getD a false = true
/-- t and u = the least model of the reduct by t, s steps on. -/
structure AltS (D : List Rl) (n : Nat) (s : Nat) (t u : List Bool) : Prop where
  tl : t.length = n
  ul : u.length = n
  sub : ∀ a, a < n → t.getD a false = true → WT D a
  u : ∀ a, a < n → (u.getD a false = true ↔ Lst D (tS t) a)
  up : ∀ a, tS t a → Lst D (Lst D (tS t)) a
  cnt : s ≤ t.countP (fun b => b)
theorem tS_lt {t : List Bool} (h : t.length = n) {a : Nat} (ha : tS t a) : a < n := by
  by_cases hl : a < n
  · exact hl
  · unfold tS at ha
    rw [List.getD_eq_getElem?_getD, List.getElem?_eq_none (by omega)] at ha
    cases ha
theorem alt0 {u : List Bool} (hu : u.length = n) (h : ∀ a, a < n → (u.getD a false = true ↔ Lst D (tS (List.replicate n false)) a)) : AltS D n 0 (List.replicate n false) u := by
  refine ⟨by simp, hu, fun a _ e => ?_, h, fun a e => ?_, Nat.zero_le _⟩
  · rw [getD_repF] at e; cases e
  · unfold tS at e; rw [getD_repF] at e; cases e
theorem AltS.same {s : Nat} {t u : List Bool} (hok : Okay n D) (h : AltS D n s t u) (a : Nat) : tS u a ↔ Lst D (tS t) a :=
  ⟨fun e => (h.u a (tS_lt h.ul e)).1 e, fun e => (h.u a (e.lt hok)).2 e⟩
theorem countP_grow : ∀ {t t' : List Bool}, t.length = t'.length → (∀ a, t.getD a false = true → t'.getD a false = true) → t' ≠ t → t.countP (fun b => b) + 1 ≤ t'.countP (fun b => b)
  | [], [], _, _, h => absurd rfl h
  | x :: t, y :: t', hl, hs, hne => by
    have hl' : t.length = t'.length := by simpa using hl
    have hs' : ∀ a, t.getD a false = true → t'.getD a false = true := fun a e => hs (a + 1) e
    have h0 : x = true → y = true := hs 0
    have hle : t.countP (fun b => b) ≤ t'.countP (fun b => b) := by
      by_cases e : t' = t
      · rw [e]; exact Nat.le_refl _
      · have := countP_grow hl' hs' e; omega
    rw [List.countP_cons, List.countP_cons]
    by_cases e : t' = t
    · subst e
      cases x <;> cases y <;> simp_all
    · have := countP_grow hl' hs' e
      cases x <;> cases y <;> simp_all <;> omega
theorem AltS.next {s : Nat} {t u t2 u2 : List Bool} (hok : Okay n D) (h : AltS D n s t u) (h2 : t2.length = n) (ht2 : ∀ a, a < n → (t2.getD a false = true ↔ Lst D (tS u) a)) (hne : t2 ≠ t) (hu2 : u2.length = n) (hu : ∀ a, a < n → (u2.getD a false = true ↔ Lst D (tS t2) a)) : AltS D n (s + 1) t2 u2 := by
  have e2 : ∀ a, tS t2 a ↔ Lst D (Lst D (tS t)) a := fun a => by
    constructor
    · intro e
      exact Lst.anti (fun b hb => (h.same hok b).2 hb) ((ht2 a (tS_lt h2 e)).1 e)
    · intro e
      exact (ht2 a (e.lt hok)).2 (Lst.anti (fun b hb => (h.same hok b).1 hb) e)
  have hup : ∀ a, tS t a → tS t2 a := fun a e => (e2 a).2 (h.up a e)
  refine ⟨h2, hu2, fun a ha e => ?_, hu, fun a e => ?_, ?_⟩
  · exact WT.close (Lst.anti (fun b hb => Lst.anti (fun c hc => h.sub c (tS_lt h.tl hc) hc) hb) ((e2 a).1 e))
  · exact lst2_mono hup ((e2 a).1 e)
  · have := countP_grow (h.tl.trans h2.symm) hup hne
    have := h.cnt
    omega
theorem AltS.bound {s : Nat} {t u : List Bool} (h : AltS D n s t u) : s ≤ n := by
  have h1 := h.cnt
  have h2 := List.countP_le_length (p := fun b : Bool => b) (l := t)
  rw [h.tl] at h2
  omega
/-- Where it stands, it is the well-founded model. -/
theorem AltS.fin {s : Nat} {t u : List Bool} (hok : Okay n D) (h : AltS D n s t u) (ht2 : ∀ a, a < n → (t.getD a false = true ↔ Lst D (tS u) a)) {a : Nat} (ha : a < n) : (t.getD a false = true ↔ WT D a) ∧ (u.getD a false = true ↔ WU D a) := by
  have hT : ∀ b, WT D b → tS t b := fun b hb => hb (tS t) (fun x hx => (ht2 x (hx.lt hok)).2 (Lst.anti (fun c hc => (h.same hok c).1 hc) hx))
  have hT2 : ∀ b, tS t b → WT D b := fun b hb => h.sub b (tS_lt h.tl hb) hb
  refine ⟨⟨h.sub a ha, hT a⟩, ?_⟩
  rw [h.u a ha]
  exact ⟨Lst.anti hT, Lst.anti hT2⟩
end
end Go.Proofs.Qxb6600121a
