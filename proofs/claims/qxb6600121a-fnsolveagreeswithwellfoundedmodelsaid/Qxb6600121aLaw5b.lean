/-
  THE PLAIN LAW OF SETTLING (5b): the counts of all the component.
-/
import Derived.Test.Qxb6600121aLaw5
namespace Go.Proofs.Qxb6600121a
open Go
structure BgA (D : List Rl) (n : Nat) (T F : SS) (A : List Nat) : Prop where
  al : Alike T F
  cl : ∀ r, r < D.length → F.closed.getD r false = if (D.getD r rl0).head ∈ A then dead D T r else T.closed.getD r false
  wt : ∀ r, r < D.length → (D.getD r rl0).head ∈ A → dead D T r = false → F.wait.getD r 0 = (waits D T r : Int)
  wt2 : ∀ r, r < D.length → (D.getD r rl0).head ∉ A → F.wait.getD r 0 = T.wait.getD r 0
  wb : ∀ r, F.wait.getD r 0 = T.wait.getD r 0 ∨ F.wait.getD r 0 = (waits D T r : Int)
  op : ∀ a ∈ A, F.opn.getD a 0 = (((idxH D n D.length).getD a []).countP (fun r => !dead D T r) : Nat)
  op2 : ∀ x, x ∉ A → F.opn.getD x 0 = T.opn.getD x 0
theorem bgA_fold (D : List Rl) (n : Nat) (hok : Okay n D) (A : List Nat) (T : SS) (h1 : T.closed.length = D.length) (h2 : T.wait.length = D.length) (h3 : T.opn.length = n) (hA : ∀ x ∈ A, x < n) : BgA D n T (st2 D n A T) A := by
  unfold st2
  induction A generalizing T with
  | nil => exact ⟨Alike.refl T, fun r _ => by simp, fun r _ hr => (by cases hr), fun _ _ _ => rfl, fun _ => .inl rfl, fun a ha => (by cases ha), fun _ _ => rfl⟩
  | cons x A ih =>
    rw [List.foldl_cons]
    have hx := hA x (List.mem_cons_self ..)
    have hb : Bg D x (opn0 T x) (bgA D n T x) ((idxH D n D.length).getD x []) := bg_fold D x _ (opn0 T x)
    have hal0 : Alike T (opn0 T x) := ⟨rfl, rfl, rfl, rfl, rfl, rfl, rfl, rfl, rfl, by simp [opn0]⟩
    have hal : Alike T (bgA D n T x) := hal0.trans hb.al
    have hdv : ∀ r, dead D (bgA D n T x) r = dead D T r := dead_val D hal.val
    have hwv : ∀ r, waits D (bgA D n T x) r = waits D T r := waits_val D hal.val
    have hd0 : ∀ r, dead D (opn0 T x) r = dead D T r := dead_val D hal0.val
    have hw0 : ∀ r, waits D (opn0 T x) r = waits D T r := waits_val D hal0.val
    have h := ih (bgA D n T x) (by rw [hal.ncl]; exact h1) (by rw [hal.nwt]; exact h2) (by rw [hal.nop]; exact h3) (fun y hy => hA y (List.mem_cons_of_mem _ hy))
    have hmem : ∀ r, r < D.length → (r ∈ (idxH D n D.length).getD x [] ↔ (D.getD r rl0).head = x) := fun r hr => by
      rw [mem_idxH D n D.length (Nat.le_refl _) hok x r]
      exact ⟨fun e => e.2, fun e => ⟨hr, e⟩⟩
    refine ⟨hal.trans h.al, ?_, ?_, ?_, ?_, ?_, ?_⟩
    · intro r hr
      rw [h.cl r hr, hdv]
      by_cases hm : (D.getD r rl0).head ∈ A
      · rw [if_pos hm, if_pos (List.mem_cons_of_mem _ hm)]
      · rw [if_neg hm, hb.cl r (by show r < T.closed.length; rw [h1]; exact hr), hd0]
        by_cases hrx : (D.getD r rl0).head = x
        · rw [if_pos ((hmem r hr).2 hrx), if_pos (by rw [hrx]; exact List.mem_cons_self ..)]
        · rw [if_neg (fun e => hrx ((hmem r hr).1 e)), if_neg (fun e => (List.mem_cons.1 e).elim hrx hm)]
          rfl
    · intro r hr hm hd
      by_cases hmA : (D.getD r rl0).head ∈ A
      · rw [h.wt r hr hmA (by rw [hdv]; exact hd), hwv]
      · rw [h.wt2 r hr hmA, hb.wt r (by show r < T.wait.length; rw [h2]; exact hr) ((hmem r hr).2 ((List.mem_cons.1 hm).resolve_right hmA)) (by rw [hd0]; exact hd), hw0]
    · intro r hr hm
      rw [h.wt2 r hr (fun e => hm (List.mem_cons_of_mem _ e)), hb.wt2 r (fun e => hm (by rw [(hmem r hr).1 e]; exact List.mem_cons_self ..))]
      rfl
    · intro r
      rcases h.wb r with h4 | h4
      · rw [h4]
        rcases hb.wb r with h5 | h5
        · exact .inl h5
        · rw [hw0] at h5; exact .inr h5
      · rw [hwv] at h4; exact .inr h4
    · intro a ha
      by_cases haA : a ∈ A
      · rw [h.op a haA]
        simp only [hdv]
      · have hax : a = x := (List.mem_cons.1 ha).resolve_right haA
        subst hax
        rw [h.op2 a haA, hb.op (by show a < (T.opn.set a 0).length; rw [List.length_set, h3]; exact hx)]
        have e0 : (opn0 T a).opn.getD a 0 = 0 := getD_set_eq _ _ _ _ (by rw [h3]; exact hx)
        rw [e0, Int.zero_add]
        simp only [hd0]
    · intro y hy
      have hyx : y ≠ x := fun e => hy (by rw [e]; exact List.mem_cons_self ..)
      rw [h.op2 y (fun e => hy (List.mem_cons_of_mem _ e)), hb.op2 y hyx]
      exact getD_set_ne' _ _ _ _ _ (Ne.symm hyx)
/-- The first loop. -/
structure Ini (k : Nat) (T F : SS) (A : List Nat) : Prop where
  val : F.val = T.val
  opn : F.opn = T.opn
  lost : F.lost = T.lost
  looked : F.looked = T.looked
  wait : F.wait = T.wait
  closed : F.closed = T.closed
  need : F.need = T.need
  queue : F.queue = T.queue
  np : F.part.length = T.part.length
  ns : F.source.length = T.source.length
  p1 : ∀ x ∈ A, x < T.part.length → F.part.getD x 0 = (k : Int)
  p2 : ∀ x, x ∉ A → F.part.getD x 0 = T.part.getD x 0
  s1 : ∀ x ∈ A, x < T.source.length → F.source.getD x 0 = -1
  s2 : ∀ x, x ∉ A → F.source.getD x 0 = T.source.getD x 0
theorem ini_fold (k : Nat) (A : List Nat) (T : SS) : Ini k T (A.foldl (iniF k) T) A := by
  induction A generalizing T with
  | nil => exact ⟨rfl, rfl, rfl, rfl, rfl, rfl, rfl, rfl, rfl, rfl, fun x hx => (by cases hx), fun _ _ => rfl, fun x hx => (by cases hx), fun _ _ => rfl⟩
  | cons a A ih =>
    rw [List.foldl_cons]
    have h := ih (iniF k T a)
    refine ⟨h.val, h.opn, h.lost, h.looked, h.wait, h.closed, h.need, h.queue, by rw [h.np]; simp [iniF], by rw [h.ns]; simp [iniF], ?_, ?_, ?_, ?_⟩
    · intro x hx hl
      by_cases hxA : x ∈ A
      · exact h.p1 x hxA (by simpa [iniF] using hl)
      · rw [h.p2 x hxA, (List.mem_cons.1 hx).resolve_right hxA]
        rw [(List.mem_cons.1 hx).resolve_right hxA] at hl
        exact getD_set_eq _ _ _ _ hl
    · intro x hx
      rw [h.p2 x (fun e => hx (List.mem_cons_of_mem _ e))]
      exact getD_set_ne' _ _ _ _ _ (fun e => hx (by rw [e]; exact List.mem_cons_self ..))
    · intro x hx hl
      by_cases hxA : x ∈ A
      · exact h.s1 x hxA (by simpa [iniF] using hl)
      · rw [h.s2 x hxA, (List.mem_cons.1 hx).resolve_right hxA]
        rw [(List.mem_cons.1 hx).resolve_right hxA] at hl
        exact getD_set_eq _ _ _ _ hl
    · intro x hx
      rw [h.s2 x (fun e => hx (List.mem_cons_of_mem _ e))]
      exact getD_set_ne' _ _ _ _ _ (fun e => hx (by rw [e]; exact List.mem_cons_self ..))
end Go.Proofs.Qxb6600121a
