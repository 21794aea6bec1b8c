/-
  THE SOLVER IN MEMORY (2): with its two rows, and what a call of the solver's may turn. The small functions on its state.
-/
import Derived.Test.Qxb6600121aSol
import Derived.Test.Qxb6600121aTj
namespace Go.Proofs.Qxb6600121a
open Go
structure SM (h : Array Obj) (L : Lay) (n : Nat) (D : List Rl) (S : SS) (Prot : Nat → Prop) (lv qv : Value) : Prop where
  c : SolC h L n D S lv qv
  rl : Row h 3 1 lv S.lost.length (nats S.lost)
  rq : Row h 3 1 qv S.queue.length (nats S.queue)
  ol : ∀ g, lv.ownBlock = some g → L.s + 9 < g ∧ ¬ Prot g
  oq : ∀ g, qv.ownBlock = some g → L.s + 9 < g ∧ ¬ Prot g
  d : ∀ g, lv.ownBlock = some g → qv.ownBlock ≠ some g
/-- What a call may turn. -/
def FX (L : Lay) (Prot : Nat → Prop) (g : Nat) : Prop := L.s < g ∧ g ≠ L.s + 8 ∧ ¬ Prot g
structure SMF (w0 w : World) (L : Lay) (n : Nat) (D : List Rl) (S : SS) (Prot : Nat → Prop) (lv qv : Value) : Prop where
  m : SM w.heap L n D S Prot lv qv
  f : Fr (FX L Prot) w0 w
  p : ∀ g, Prot g → g < w0.heap.size ∧ (g ≤ L.s ∨ L.s + 9 < g)
section
variable {w0 w w' w1 w2 w3 w4 : World} {L : Lay} {n : Nat} {D : List Rl} {S S' : SS} {Prot : Nat → Prop} {lv qv lv' qv' : Value}
theorem SMF.self (h : SMF w0 w L n D S Prot lv qv) : SMF w w L n D S Prot lv qv := ⟨h.m, Fr.refl _ _, fun g hg => ⟨Nat.lt_of_lt_of_le (h.p g hg).1 h.f.size, (h.p g hg).2⟩⟩
theorem SMF.after (h : SMF w0 w L n D S Prot lv qv) (k : SMF w w' L n D S' Prot lv' qv') : SMF w0 w' L n D S' Prot lv' qv' := ⟨k.m, h.f.trans k.f, h.p⟩
theorem SMF.lt (h : SMF w0 w L n D S Prot lv qv) : L.s + 9 < w.heap.size := h.m.c.lt
/-- Frames over the rows. -/
theorem SM.rows {X : Nat → Prop} (h : SM w.heap L n D S Prot lv qv) (hf : Fr X w w') (hX : ∀ g, X g → g ≤ L.s + 9) (hc : SolC w'.heap L n D S' lv qv) (hl : S'.lost = S.lost) (hq : S'.queue = S.queue) : SM w'.heap L n D S' Prot lv qv :=
  ⟨hc, by rw [hl]; exact h.rl.fr hf (fun g hg hx => by have := h.ol g hg; have := hX g hx; omega), by rw [hq]; exact h.rq.fr hf (fun g hg hx => by have := h.oq g hg; have := hX g hx; omega), h.ol, h.oq, h.d⟩
theorem SMF.upd {g te : Nat} {cs : List Value} (h : SMF w0 w L n D S Prot lv qv) (hu : Upd w w' g te cs) (hg : L.s < g ∧ g ≤ L.s + 9 ∧ g ≠ L.s + 8) (hc : SolC w'.heap L n D S' lv qv) (hl : S'.lost = S.lost) (hq : S'.queue = S.queue) : SMF w0 w' L n D S' Prot lv qv :=
  ⟨h.m.rows hu.fr (fun k hk => by omega) hc hl hq, h.f.trans (hu.fr.mono (fun k _ hk => by
    subst hk
    exact ⟨hg.1, hg.2.2, fun hp => by have := (h.p k hp).2; omega⟩)), h.p⟩
theorem SMF.setVal (h : SMF w0 w L n D S Prot lv qv) {k : Nat} {x : Int} (hu : Upd w w' (L.s + 1) 45 ((i8s S.val).set k (.int .i8 x))) : SMF w0 w' L n D { S with val := S.val.set k x } Prot lv qv := h.upd hu (by omega) (h.m.c.setVal hu) rfl rfl
theorem SMF.setPart (h : SMF w0 w L n D S Prot lv qv) {k : Nat} {x : Int} (hu : Upd w w' (L.s + 2) 3 ((ints S.part).set k (.int .i64 x))) : SMF w0 w' L n D { S with part := S.part.set k x } Prot lv qv := h.upd hu (by omega) (h.m.c.setPart hu) rfl rfl
theorem SMF.setSource (h : SMF w0 w L n D S Prot lv qv) {k : Nat} {x : Int} (hu : Upd w w' (L.s + 3) 3 ((ints S.source).set k (.int .i64 x))) : SMF w0 w' L n D { S with source := S.source.set k x } Prot lv qv := h.upd hu (by omega) (h.m.c.setSource hu) rfl rfl
theorem SMF.setOpn (h : SMF w0 w L n D S Prot lv qv) {k : Nat} {x : Int} (hu : Upd w w' (L.s + 4) 3 ((ints S.opn).set k (.int .i64 x))) : SMF w0 w' L n D { S with opn := S.opn.set k x } Prot lv qv := h.upd hu (by omega) (h.m.c.setOpn hu) rfl rfl
theorem SMF.setWait (h : SMF w0 w L n D S Prot lv qv) {k : Nat} {x : Int} (hu : Upd w w' (L.s + 5) 3 ((ints S.wait).set k (.int .i64 x))) : SMF w0 w' L n D { S with wait := S.wait.set k x } Prot lv qv := h.upd hu (by omega) (h.m.c.setWait hu) rfl rfl
theorem SMF.setClosed (h : SMF w0 w L n D S Prot lv qv) {k : Nat} {x : Bool} (hu : Upd w w' (L.s + 6) 4 ((bools S.closed).set k (.bool x))) : SMF w0 w' L n D { S with closed := S.closed.set k x } Prot lv qv := h.upd hu (by omega) (h.m.c.setClosed hu) rfl rfl
theorem SMF.setNeed (h : SMF w0 w L n D S Prot lv qv) {k : Nat} {x : Int} (hu : Upd w w' (L.s + 7) 3 ((ints S.need).set k (.int .i64 x))) : SMF w0 w' L n D { S with need := S.need.set k x } Prot lv qv := h.upd hu (by omega) (h.m.c.setNeed hu) rfl rfl
theorem SMF.setLooked (h : SMF w0 w L n D S Prot lv qv) {x : Int} (hu : Upd w w' (L.s + 9) 61 ((solCells L n D.length lv S.looked qv).set 9 (.int .i64 x))) : SMF w0 w' L n D { S with looked := x } Prot lv qv := h.upd hu (by omega) (h.m.c.setLooked hu) rfl rfl
theorem SMF.newb {te : Nat} {cs : List Value} (h : SMF w0 w L n D S Prot lv qv) (hn : Newb w w' te cs) : SMF w0 w' L n D S Prot lv qv :=
  ⟨h.m.rows hn.fr (fun _ h => h.elim) (h.m.c.fr hn.fr (fun _ h => h.elim)) rfl rfl, h.f.newb hn, h.p⟩
/-- A fresh block, filled. -/
theorem SMF.box {te te' : Nat} {cs cs' : List Value} (h : SMF w0 w L n D S Prot lv qv) (hn : Newb w w1 te cs) (hu : Upd w1 w2 w.heap.size te' cs') : SMF w0 w2 L n D S Prot lv qv := by
  have h1 := h.newb hn
  have l := h.lt
  have hs := h.f.size
  refine ⟨⟨h1.m.c.fr hu.fr (fun k hk => by omega), h1.m.rl.fr hu.fr (fun g hg e => by have := h.m.rl.lt hg; omega), h1.m.rq.fr hu.fr (fun g hg e => by have := h.m.rq.lt hg; omega), h1.m.ol, h1.m.oq, h1.m.d⟩, ?_, h.p⟩
  exact h1.f.trans (hu.fr.mono (fun k _ hk => ⟨by omega, by omega, fun hp => by have := (h.p k hp).1; omega⟩))
/-- The queue's row has been appended to, and laid back. -/
theorem SMF.setQueue (h : SMF w0 w L n D S Prot lv qv) {xs : List Nat} {X : Nat → Prop} (hf : Fr X w w1) (hX : ∀ g, X g → g < w.heap.size → qv.ownBlock = some g) (hrow : Row w1.heap 3 1 qv' xs.length (nats xs))
    (hat : qv'.ownBlock = qv.ownBlock ∨ ∀ g, qv'.ownBlock = some g → w.heap.size ≤ g) (hu : Upd w1 w2 (L.s + 9) 61 ((solCells L n D.length lv S.looked qv).set 13 qv')) : SMF w0 w2 L n D { S with queue := xs } Prot lv qv' := by
  have l := h.lt
  have hs := h.f.size
  have hXf : Fr (fun g => qv.ownBlock = some g) w w1 := hf.mono (fun g hg hx => hX g hx hg)
  have hc1 : SolC w1.heap L n D S lv qv := h.m.c.fr hXf (fun k hk => (h.m.oq k hk).1)
  have hoq : ∀ g, qv'.ownBlock = some g → L.s + 9 < g ∧ ¬ Prot g := by
    intro g hg
    rcases hat with h1 | h1
    · exact h.m.oq g (by rw [← h1]; exact hg)
    · have := h1 g hg
      exact ⟨by omega, fun hp => by have := (h.p g hp).1; omega⟩
  have hd : ∀ g, lv.ownBlock = some g → qv'.ownBlock ≠ some g := by
    intro g hg hq
    rcases hat with h1 | h1
    · exact h.m.d g hg (by rw [← h1]; exact hq)
    · have := h1 g hq
      have := h.m.rl.lt hg
      omega
  refine ⟨⟨hc1.setQueue hu, ?_, ?_, h.m.ol, hoq, hd⟩, ?_, h.p⟩
  · exact (h.m.rl.fr hXf (fun g hg e => h.m.d g hg e)).fr hu.fr (fun g hg e => by have := h.m.ol g hg; omega)
  · exact hrow.fr hu.fr (fun g hg e => by have := hoq g hg; omega)
  · refine (h.f.trans (hXf.mono (fun g _ hg => ?_))).trans (hu.fr.mono (fun k _ hk => ?_))
    · have := h.m.oq g hg; exact ⟨by omega, by omega, this.2⟩
    · subst hk; exact ⟨by omega, by omega, fun hp => by have := (h.p _ hp).2; omega⟩
theorem SMF.setLost (h : SMF w0 w L n D S Prot lv qv) {xs : List Nat} {X : Nat → Prop} (hf : Fr X w w1) (hX : ∀ g, X g → g < w.heap.size → lv.ownBlock = some g) (hrow : Row w1.heap 3 1 lv' xs.length (nats xs))
    (hat : lv'.ownBlock = lv.ownBlock ∨ ∀ g, lv'.ownBlock = some g → w.heap.size ≤ g) (hu : Upd w1 w2 (L.s + 9) 61 ((solCells L n D.length lv S.looked qv).set 8 lv')) : SMF w0 w2 L n D { S with lost := xs } Prot lv' qv := by
  have l := h.lt
  have hs := h.f.size
  have hXf : Fr (fun g => lv.ownBlock = some g) w w1 := hf.mono (fun g hg hx => hX g hx hg)
  have hc1 : SolC w1.heap L n D S lv qv := h.m.c.fr hXf (fun k hk => (h.m.ol k hk).1)
  have hol : ∀ g, lv'.ownBlock = some g → L.s + 9 < g ∧ ¬ Prot g := by
    intro g hg
    rcases hat with h1 | h1
    · exact h.m.ol g (by rw [← h1]; exact hg)
    · have := h1 g hg
      exact ⟨by omega, fun hp => by have := (h.p g hp).1; omega⟩
  have hd : ∀ g, lv'.ownBlock = some g → qv.ownBlock ≠ some g := by
    intro g hg hq
    rcases hat with h1 | h1
    · exact h.m.d g (by rw [← h1]; exact hg) hq
    · have := h1 g hg
      have := h.m.rq.lt hq
      omega
  refine ⟨⟨hc1.setLost hu, ?_, ?_, hol, h.m.oq, hd⟩, ?_, h.p⟩
  · exact hrow.fr hu.fr (fun g hg e => by have := hol g hg; omega)
  · exact (h.m.rq.fr hXf (fun g hg e => h.m.d g e hg)).fr hu.fr (fun g hg e => by have := h.m.oq g hg; omega)
  · refine (h.f.trans (hXf.mono (fun g _ hg => ?_))).trans (hu.fr.mono (fun k _ hk => ?_))
    · have := h.m.ol g hg; exact ⟨by omega, by omega, this.2⟩
    · subst hk; exact ⟨by omega, by omega, fun hp => by have := (h.p _ hp).2; omega⟩
/-- One more in the queue: the new cell's block, the append, the field. -/
theorem SMF.pushQ (h : SMF w0 w L n D S Prot lv qv) {a : Nat} (h1 : Newb w w1 3 [.int .i64 (a : Int)]) (hrow : Row w2.heap 3 1 qv' (S.queue.length + 1) (nats S.queue ++ [.int .i64 (a : Int)])) (h12 : Fr (fun g => qv.ownBlock = some g) w1 w2)
    (hat : qv'.ownBlock = qv.ownBlock ∨ qv'.ownBlock = some w1.heap.size) (hu : Upd w2 w3 (L.s + 9) 61 ((solCells L n D.length lv S.looked qv).set 13 qv')) : SMF w0 w3 L n D { S with queue := S.queue ++ [a] } Prot lv qv' := by
  have s1 := h1.size
  refine h.setQueue (X := fun g => qv.ownBlock = some g) ((h1.fr.mono (fun _ _ h => h.elim)).trans h12) (fun g hg _ => hg) ?_ ?_ hu
  · have e : nats (S.queue ++ [a]) = nats S.queue ++ [.int .i64 (a : Int)] := by simp [nats]
    rw [e, List.length_append, List.length_singleton]; exact hrow
  · rcases hat with h2 | h2
    · exact .inl h2
    · right; intro g hg; rw [h2] at hg; have : w1.heap.size = g := by simpa using hg
      omega
theorem SMF.pushL (h : SMF w0 w L n D S Prot lv qv) {a : Nat} (h1 : Newb w w1 3 [.int .i64 (a : Int)]) (hrow : Row w2.heap 3 1 lv' (S.lost.length + 1) (nats S.lost ++ [.int .i64 (a : Int)])) (h12 : Fr (fun g => lv.ownBlock = some g) w1 w2)
    (hat : lv'.ownBlock = lv.ownBlock ∨ lv'.ownBlock = some w1.heap.size) (hu : Upd w2 w3 (L.s + 9) 61 ((solCells L n D.length lv S.looked qv).set 8 lv')) : SMF w0 w3 L n D { S with lost := S.lost ++ [a] } Prot lv' qv := by
  have s1 := h1.size
  refine h.setLost (X := fun g => lv.ownBlock = some g) ((h1.fr.mono (fun _ _ h => h.elim)).trans h12) (fun g hg _ => hg) ?_ ?_ hu
  · have e : nats (S.lost ++ [a]) = nats S.lost ++ [.int .i64 (a : Int)] := by simp [nats]
    rw [e, List.length_append, List.length_singleton]; exact hrow
  · rcases hat with h2 | h2
    · exact .inl h2
    · right; intro g hg; rw [h2] at hg; have : w1.heap.size = g := by simpa using hg
      omega
end
/-! ### The small functions on the state -/
def decideF (S : SS) (a : Nat) (t : Int) : SS := if S.val.getD a 0 = 1 then { S with val := S.val.set a t, queue := S.queue ++ [a] } else S
def closeF (S : SS) (r : Nat) : SS := { S with closed := S.closed.set r true }
def loseF (S : SS) (h : Nat) : SS := { S with source := S.source.set h (-1), lost := S.lost ++ [h] }
def loseIf (S : SS) (h r : Nat) : SS := if S.source.getD h 0 = (r : Int) then loseF S h else S
def decO (S : SS) (h : Nat) : SS := { S with opn := S.opn.set h (S.opn.getD h 0 - 1) }
def decW (S : SS) (r : Nat) : SS := { S with wait := S.wait.set r (S.wait.getD r 0 - 1) }
def refIf (S : SS) (h : Nat) : SS := if S.opn.getD h 0 = 0 then decideF S h 0 else S
def prvIf (S : SS) (h r : Nat) : SS := if S.wait.getD r 0 = 0 then decideF S h 2 else S
def meetF (D : List Rl) (part : Nat) (S : SS) (r : Nat) (met : Bool) : SS :=
  if S.part.getD (D.getD r rl0).head 0 ≠ (part : Int) ∨ S.closed.getD r false = true then S
  else if met = false then refIf (decO (loseIf (closeF S r) (D.getD r rl0).head r) (D.getD r rl0).head) (D.getD r rl0).head
  else prvIf (decW S r) (D.getD r rl0).head r
end Go.Proofs.Qxb6600121a
