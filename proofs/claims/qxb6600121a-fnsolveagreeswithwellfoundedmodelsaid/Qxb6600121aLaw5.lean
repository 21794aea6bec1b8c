/-
  THE PLAIN LAW OF SETTLING (5): how a component's counts begin.
-/
import Derived.Test.Qxb6600121aLaw4c
namespace Go.Proofs.Qxb6600121a
open Go
/-- All but the counts. -/
structure Alike (T F : SS) : Prop where
  val : F.val = T.val
  part : F.part = T.part
  source : F.source = T.source
  lost : F.lost = T.lost
  queue : F.queue = T.queue
  need : F.need = T.need
  looked : F.looked = T.looked
  ncl : F.closed.length = T.closed.length
  nwt : F.wait.length = T.wait.length
  nop : F.opn.length = T.opn.length
theorem Alike.refl (T : SS) : Alike T T := ⟨rfl, rfl, rfl, rfl, rfl, rfl, rfl, rfl, rfl, rfl⟩
theorem Alike.trans {T F G : SS} (h : Alike T F) (k : Alike F G) : Alike T G :=
  ⟨k.val.trans h.val, k.part.trans h.part, k.source.trans h.source, k.lost.trans h.lost, k.queue.trans h.queue, k.need.trans h.need, k.looked.trans h.looked, k.ncl.trans h.ncl, k.nwt.trans h.nwt, k.nop.trans h.nop⟩
theorem dead_val (D : List Rl) {S T : SS} (h : S.val = T.val) (r : Nat) : dead D S r = dead D T r := by unfold dead; rw [h]
theorem waits_val (D : List Rl) {S T : SS} (h : S.val = T.val) (r : Nat) : waits D S r = waits D T r := by unfold waits; rw [h]
theorem bg_alike (D : List Rl) (a : Nat) (T : SS) (r : Nat) : Alike T (bgF D a T r) ∧ (bgF D a T r).closed = T.closed.set r (dead D T r) ∧ (bgF D a T r).wait = (if dead D T r = true then T.wait else T.wait.set r (waits D T r : Int)) ∧
    (bgF D a T r).opn = (if dead D T r = true then T.opn else T.opn.set a (T.opn.getD a 0 + 1)) := by
  unfold bgF beginF
  by_cases hd : dead D T r = true
  · rw [if_pos hd, if_pos hd, if_pos hd, if_pos hd]
    exact ⟨⟨rfl, rfl, rfl, rfl, rfl, rfl, rfl, by simp, rfl, rfl⟩, rfl, rfl, rfl⟩
  · rw [if_neg hd, if_neg hd, if_neg hd, if_neg hd]
    exact ⟨⟨rfl, rfl, rfl, rfl, rfl, rfl, rfl, by simp, by simp, by simp⟩, rfl, rfl, rfl⟩
structure Bg (D : List Rl) (a : Nat) (T F : SS) (l : List Nat) : Prop where
  al : Alike T F
  cl : ∀ r, r < T.closed.length → F.closed.getD r false = if r ∈ l then dead D T r else T.closed.getD r false
  wt : ∀ r, r < T.wait.length → r ∈ l → dead D T r = false → F.wait.getD r 0 = (waits D T r : Int)
  wt2 : ∀ r, r ∉ l → F.wait.getD r 0 = T.wait.getD r 0
  wb : ∀ r, F.wait.getD r 0 = T.wait.getD r 0 ∨ F.wait.getD r 0 = (waits D T r : Int)
  op : a < T.opn.length → F.opn.getD a 0 = T.opn.getD a 0 + (l.countP (fun r => !dead D T r) : Nat)
  op2 : ∀ x, x ≠ a → F.opn.getD x 0 = T.opn.getD x 0
theorem getD_set_or {α : Type} (l : List α) (i j : Nat) (x d : α) : (l.set i x).getD j d = l.getD j d ∨ (l.set i x).getD j d = x := by
  by_cases h : i = j
  · subst h
    by_cases hl : i < l.length
    · exact .inr (getD_set_eq _ _ _ _ hl)
    · left
      rw [List.getD_eq_getElem?_getD, List.getD_eq_getElem?_getD, List.getElem?_eq_none (by simp; omega), List.getElem?_eq_none (by omega)]
  · exact .inl (getD_set_ne' _ _ _ _ _ h)
theorem bg_fold (D : List Rl) (a : Nat) (l : List Nat) (T : SS) : Bg D a T (l.foldl (bgF D a) T) l := by
  induction l generalizing T with
  | nil => exact ⟨Alike.refl T, fun r _ => by simp, fun r _ hr => (by cases hr), fun _ _ => rfl, fun _ => .inl rfl, fun _ => by simp, fun _ _ => rfl⟩
  | cons x l ih =>
    rw [List.foldl_cons]
    have h := ih (bgF D a T x)
    obtain ⟨ha, e1, e2, e3⟩ := bg_alike D a T x
    have hdv : ∀ r, dead D (bgF D a T x) r = dead D T r := dead_val D ha.val
    have hwv : ∀ r, waits D (bgF D a T x) r = waits D T r := waits_val D ha.val
    refine ⟨ha.trans h.al, ?_, ?_, ?_, ?_, ?_, ?_⟩
    · intro r hr
      rw [h.cl r (by rw [ha.ncl]; exact hr), hdv, e1]
      by_cases hrl : r ∈ l
      · rw [if_pos hrl, if_pos (List.mem_cons_of_mem _ hrl)]
      · rw [if_neg hrl]
        by_cases hrx : r = x
        · subst hrx
          rw [if_pos (List.mem_cons_self ..), getD_set_eq _ _ _ _ hr]
        · rw [if_neg (fun e => (List.mem_cons.1 e).elim hrx hrl), getD_set_ne' _ _ _ _ _ (Ne.symm hrx)]
    · intro r hr hm hd
      by_cases hrl : r ∈ l
      · rw [h.wt r (by rw [ha.nwt]; exact hr) hrl (by rw [hdv]; exact hd), hwv]
      · rw [h.wt2 r hrl, e2]
        have hrx : r = x := (List.mem_cons.1 hm).resolve_right hrl
        subst hrx
        rw [if_neg (by rw [hd]; exact Bool.false_ne_true), getD_set_eq _ _ _ _ hr]
    · intro r hm
      rw [h.wt2 r (fun e => hm (List.mem_cons_of_mem _ e)), e2]
      have hrx : x ≠ r := fun e => hm (by rw [e]; exact List.mem_cons_self ..)
      split
      · rfl
      · exact getD_set_ne' _ _ _ _ _ hrx
    · intro r
      rcases h.wb r with h1 | h1
      · rw [h1, e2]
        split
        · exact .inl rfl
        · rcases getD_set_or T.wait x r (waits D T x : Int) 0 with h2 | h2
          · exact .inl h2
          · by_cases hrx : x = r
            · subst hrx; exact .inr h2
            · exact .inl (getD_set_ne' _ _ _ _ _ hrx)
      · rw [hwv] at h1; exact .inr h1
    · intro hal
      rw [h.op (by rw [ha.nop]; exact hal), e3, List.countP_cons]
      have e4 : l.countP (fun r => !dead D (bgF D a T x) r) = l.countP (fun r => !dead D T r) := List.countP_congr (fun r _ => by rw [hdv])
      rw [e4]
      by_cases hd : dead D T x = true
      · rw [if_pos hd, hd]
        simp
      · have hd : dead D T x = false := by simpa using hd
        rw [if_neg (by rw [hd]; exact Bool.false_ne_true), getD_set_eq _ _ _ _ hal, hd]
        simp
        omega
    · intro y hy
      rw [h.op2 y hy, e3]
      split
      · rfl
      · exact getD_set_ne' _ _ _ _ _ (Ne.symm hy)
end Go.Proofs.Qxb6600121a
