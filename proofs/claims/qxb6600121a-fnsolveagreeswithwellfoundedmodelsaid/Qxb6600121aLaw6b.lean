/-
  THE PLAIN LAW OF SOLVING (6b): all components, one after another.
-/
import Derived.Test.Qxb6600121aLaw6
import Derived.Test.Qxb6600121aW5
namespace Go.Proofs.Qxb6600121a
open Go
section
variable {D : List Rl} {n j k K : Nat} {T U : Nat → Prop} {S S' : SS} {atoms ends : List Nat}
/-- 'k' components settled. -/
structure RKx (D : List Rl) (n : Nat) (T U : Nat → Prop) (atoms ends : List Nat) (k K : Nat) (S : SS) : Prop where
  len : Lens n D S
  queue : S.queue = []
  lost : S.lost = []
  v3 : ∀ x, x < n → S.val.getD x 0 = 0 ∨ S.val.getD x 0 = 1 ∨ S.val.getD x 0 = 2
  wb : ∀ r, r < D.length → 0 ≤ S.wait.getD r 0 ∧ S.wait.getD r 0 ≤ 2000000
  ob : ∀ a, a < n → 0 ≤ S.opn.getD a 0 ∧ S.opn.getD a 0 ≤ 2000000
  nb : ∀ r, r < D.length → 0 ≤ S.need.getD r 0 ∧ S.need.getD r 0 ≤ 2000000
  s2 : ∀ a, a < n → S.val.getD a 0 = 2 → T a
  s0 : ∀ a, a < n → S.val.getD a 0 = 0 → ¬ U a
  supp : ∀ Y : Nat → Prop, (∀ r, r < D.length → (∀ a ∈ (D.getD r rl0).all, S.val.getD a 0 = 2 ∧ Y a) → (∀ b ∈ (D.getD r rl0).unl, S.val.getD b 0 = 0) → Y (D.getD r rl0).head) → ∀ a, a < n → S.val.getD a 0 = 2 → Y a
  lk0 : 0 ≤ S.looked
  lk : S.looked ≤ (K : Int) * 65537000000
  fixed : ∀ j, j < k → j < ends.length → Fixed D n j (sg atoms ends j) T U S
  rest : ∀ x, x < n → (∀ j, j < k → j < ends.length → x ∉ sg atoms ends j) → S.part.getD x 0 < 0
theorem sg_disj (hp : Part n atoms ends) {j k x : Nat} (hj : j < ends.length) (hk : k < ends.length) (h1 : x ∈ sg atoms ends j) (h2 : x ∈ sg atoms ends k) : j = k := by
  obtain ⟨a, a1, a2, a3⟩ := mem_sg h1
  obtain ⟨b, b1, b2, b3⟩ := mem_sg h2
  have han := (hp.inc j hj).2
  have hbn := (hp.inc k hk).2
  have hab : a = b := by
    by_cases hlt : a < b
    · exact absurd (a3.symm.trans b3) (hp.inj a b hlt (by omega))
    · by_cases hgt : b < a
      · exact absurd (b3.symm.trans a3) (hp.inj b a hgt (by omega))
      · omega
  subst hab
  exact hp.seg_uniq hj hk a1 a2 b1 b2
theorem sg_take {j x : Nat} (h : x ∈ sg atoms ends j) : x ∈ atoms.take (ends.getD j 0) := List.mem_of_mem_drop h
theorem later_not (hp : Part n atoms ends) {j k x : Nat} (hjk : j < k) (hk : k < ends.length) (h : x ∈ atoms.take (ends.getD j 0)) : x ∉ sg atoms ends k := by
  intro h2
  obtain ⟨a, a1, a2, a3⟩ := mem_take' h
  obtain ⟨b, b1, b2, b3⟩ := mem_sg h2
  have hm := hp.ends_mono (j := j + 1) (k := k) hjk (by omega)
  rw [prevE_succ] at hm
  have hbn := (hp.inc k hk).2
  exact hp.inj a b (by omega) (by omega) (by rw [a3]; exact b3)
theorem rk_start (D : List Rl) (n : Nat) (T U : Nat → Prop) (atoms ends : List Nat) : RKx D n T U atoms ends 0 0 (ss0 n D.length) := by
  have g1 : ∀ (m x : Nat), (List.replicate m (1 : Int)).getD x 0 = 1 ∨ ¬ x < m := fun m x => by
    by_cases hx : x < m
    · left; simp [List.getD_eq_getElem?_getD, hx]
    · exact .inr hx
  refine ⟨⟨by simp [ss0], by simp [ss0], by simp [ss0], by simp [ss0], by simp [ss0], by simp [ss0], by simp [ss0]⟩, rfl, rfl, ?_, ?_, ?_, ?_, ?_, ?_, ?_, by show (0 : Int) ≤ 0; decide, by show (0 : Int) ≤ _; decide, fun j hj => absurd hj (Nat.not_lt_zero _), ?_⟩
  · intro x hx
    rcases g1 n x with h | h
    · exact .inr (.inl h)
    · exact absurd hx h
  · intro r hr; show 0 ≤ (List.replicate D.length (0 : Int)).getD r 0 ∧ (List.replicate D.length (0 : Int)).getD r 0 ≤ _; rw [getD_rep]; decide
  · intro r hr; show 0 ≤ (List.replicate n (0 : Int)).getD r 0 ∧ (List.replicate n (0 : Int)).getD r 0 ≤ _; rw [getD_rep]; decide
  · intro r hr; show 0 ≤ (List.replicate D.length (0 : Int)).getD r 0 ∧ (List.replicate D.length (0 : Int)).getD r 0 ≤ _; rw [getD_rep]; decide
  · intro a ha he
    rcases g1 n a with h | h
    · have he : (List.replicate n (1 : Int)).getD a 0 = 2 := he
      rw [h] at he; cases he
    · exact absurd ha h
  · intro a ha he
    rcases g1 n a with h | h
    · have he : (List.replicate n (1 : Int)).getD a 0 = 0 := he
      rw [h] at he; cases he
    · exact absurd ha h
  · intro Y hY a ha he
    rcases g1 n a with h | h
    · have he : (List.replicate n (1 : Int)).getD a 0 = 2 := he
      rw [h] at he; cases he
    · exact absurd ha h
  · intro x hx _
    show (List.replicate n (-1 : Int)).getD x 0 < 0
    simp [List.getD_eq_getElem?_getD, hx]
theorem RKx.pre (h : RKx D n T U atoms ends k K S) (_hk : k < ends.length) (_hp : Part n atoms ends) : SPre D n k (sg atoms ends k) T U (S.looked + 65537000000) S := by
  refine ⟨h.len, h.queue, h.v3, h.wb, h.ob, h.nb, h.s2, h.s0, h.supp, fun x hx hxA e => ?_, h.lk0, Int.le_refl _⟩
  by_cases hj : ∃ j, j < k ∧ j < ends.length ∧ x ∈ sg atoms ends j
  · obtain ⟨j, h1, h2, h3⟩ := hj
    have := ((h.fixed j h1 h2).core.prt x hx).2 h3
    omega
  · have := h.rest x hx (fun j h1 h2 h3 => hj ⟨j, h1, h2, h3⟩)
    omega
theorem RKx.next (hok : Okay n D) (hfin : Fin' D n atoms ends) (h : RKx D n T U atoms ends k K S) (hk : k < ends.length) (g : Good D n k (sg atoms ends k) T U S (S.looked + 65537000000) S') : RKx D n T U atoms ends (k + 1) (K + 1) S' := by
  have hp := hfin.part
  have hsn : ∀ j x, x ∈ sg atoms ends j → x < n := fun j x hx => hp.mem_lt (List.mem_of_mem_take (sg_take hx))
  refine ⟨g.core.len, g.queue, g.lost, g.core.v3, g.core.wb, g.core.ob, g.core.nb, g.core.s2, g.core.s0, g.core.supp, g.lk0, ?_, ?_, ?_⟩
  · have h1 := g.lk
    have h2 := h.lk
    omega
  · intro j hj hjl
    by_cases hjk : j = k
    · subst hjk; exact ⟨g.core, g.src⟩
    · have hjlt : j < k := by omega
      refine (h.fixed j hjlt hjl).frame hok h.queue g.core g.queue g.frm (fun x hx hxk => hjk (sg_disj hp hjl hk hx hxk)) hjk (hsn j) (fun r hr x hx => ?_)
      have hx2 := hfin.cl j hjl _ (sg_take hr.2) x ⟨r, hr.1, rfl, hx⟩
      exact g.frm.v x (body_lt hok r x hx) (later_not hp hjlt hk hx2)
  · intro x hx hr
    rw [g.frm.p x hx (hr k (by omega) hk)]
    exact h.rest x hx (fun j h1 h2 => hr j (by omega) h2)
def slvOf (tu : TU D n T U) (hok : Okay n D) (hl : D.length + tot (D.map Rl.rd) ≤ 1048576) (hn : n ≤ 65536) : SlvX D n (ss0 n D.length) (fun atoms ends k S => RKx D n T U atoms ends k k S ∧ k ≤ 65536) where
  r0 := fun atoms ends _ => ⟨rk_start D n T U atoms ends, Nat.zero_le _⟩
  mq := fun atoms ends k S h => by
    have := und_le S.val
    rw [h.1.len.nval] at this
    unfold muq
    rw [h.1.queue]
    simp only [List.length_nil]
    omega
  step := fun atoms ends hfin k S hk h => stlOf tu hok hl hn (fun x hx => hfin.part.mem_lt (List.mem_of_mem_take (sg_take hx))) (by
      have h1 := sg_len hfin.part hk
      have h2 := hfin.part.inc k hk
      omega) (by
      have h1 := h.1.lk
      have h2 := h.2
      omega) (h.1.pre hk hfin.part) _ (fun S' g => ⟨h.1.next hok hfin hk g, by have := hfin.ne; omega⟩)
end
end Go.Proofs.Qxb6600121a
