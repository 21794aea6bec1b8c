/-
  THE SOLVER IN MEMORY (3): while a search runs, and the list of ready rules stands in the queue's row.
-/
import Derived.Test.Qxb6600121aW40a
namespace Go.Proofs.Qxb6600121a
open Go
structure SMR (w0 w : World) (L : Lay) (n : Nat) (D : List Rl) (S : SS) (Prot : Nat → Prop) (lv qv rv : Value) (rd : List Nat) : Prop where
  c : SolC w.heap L n D S lv qv
  rl : Row w.heap 3 1 lv S.lost.length (nats S.lost)
  rr : Row w.heap 3 1 rv rd.length (nats rd)
  ol : ∀ g, lv.ownBlock = some g → L.s + 9 < g ∧ ¬ Prot g
  oq : ∀ g, rv.ownBlock = some g → L.s + 9 < g ∧ ¬ Prot g
  d : ∀ g, lv.ownBlock = some g → rv.ownBlock ≠ some g
  f : Fr (FX L Prot) w0 w
  p : ∀ g, Prot g → g < w0.heap.size ∧ (g ≤ L.s ∨ L.s + 9 < g)
section
variable {w0 w w' w1 w2 w3 w4 : World} {L : Lay} {n : Nat} {D : List Rl} {S S' : SS} {Prot : Nat → Prop} {lv qv rv rv' : Value} {rd : List Nat}
theorem SMR.castS (h : SMR w0 w L n D S Prot lv qv rv rd) (e : S = S') : SMR w0 w L n D S' Prot lv qv rv rd := e ▸ h
theorem SMR.lt (h : SMR w0 w L n D S Prot lv qv rv rd) : L.s + 9 < w.heap.size := h.c.lt
theorem SMR.upd {g te : Nat} {cs : List Value} (h : SMR w0 w L n D S Prot lv qv rv rd) (hu : Upd w w' g te cs) (hg : L.s < g ∧ g ≤ L.s + 9 ∧ g ≠ L.s + 8) (hc : SolC w'.heap L n D S' lv qv) (hl : S'.lost = S.lost) : SMR w0 w' L n D S' Prot lv qv rv rd :=
  ⟨hc, by rw [hl]; exact h.rl.fr hu.fr (fun k hk hx => by have := h.ol k hk; omega), h.rr.fr hu.fr (fun k hk hx => by have := h.oq k hk; omega), h.ol, h.oq, h.d, h.f.trans (hu.fr.mono (fun k _ hk => by
    subst hk
    exact ⟨hg.1, hg.2.2, fun hp => by have := (h.p k hp).2; omega⟩)), h.p⟩
theorem SMR.setSource (h : SMR w0 w L n D S Prot lv qv rv rd) {k : Nat} {x : Int} (hu : Upd w w' (L.s + 3) 3 ((ints S.source).set k (.int .i64 x))) : SMR w0 w' L n D { S with source := S.source.set k x } Prot lv qv rv rd := h.upd hu (by omega) (h.c.setSource hu) rfl
theorem SMR.setNeed (h : SMR w0 w L n D S Prot lv qv rv rd) {k : Nat} {x : Int} (hu : Upd w w' (L.s + 7) 3 ((ints S.need).set k (.int .i64 x))) : SMR w0 w' L n D { S with need := S.need.set k x } Prot lv qv rv rd := h.upd hu (by omega) (h.c.setNeed hu) rfl
theorem SMR.pushR (h : SMR w0 w L n D S Prot lv qv rv rd) {a : Nat} (h1 : Newb w w1 3 [.int .i64 (a : Int)]) (hrow : Row w2.heap 3 1 rv' (rd.length + 1) (nats rd ++ [.int .i64 (a : Int)])) (h12 : Fr (fun g => rv.ownBlock = some g) w1 w2)
    (hat : rv'.ownBlock = rv.ownBlock ∨ rv'.ownBlock = some w1.heap.size) : SMR w0 w2 L n D S Prot lv qv rv' (rd ++ [a]) := by
  have l := h.lt
  have s1 := h1.size
  have hs := h.f.size
  have hf : Fr (fun g => rv.ownBlock = some g) w w2 := (h1.fr.mono (fun _ _ h => h.elim)).trans h12
  have hoq : ∀ g, rv'.ownBlock = some g → L.s + 9 < g ∧ ¬ Prot g := by
    intro g hg
    rcases hat with h1 | h1
    · exact h.oq g (by rw [← h1]; exact hg)
    · rw [h1] at hg
      have : w1.heap.size = g := by simpa using hg
      exact ⟨by omega, fun hp => by have := (h.p g hp).1; omega⟩
  refine ⟨h.c.fr hf (fun k hk => (h.oq k hk).1), h.rl.fr hf (fun g hg e => h.d g hg e), ?_, h.ol, hoq, ?_, h.f.trans (hf.mono (fun g _ hg => ?_)), h.p⟩
  · have e : nats (rd ++ [a]) = nats rd ++ [.int .i64 (a : Int)] := by simp [nats]
    rw [e, List.length_append, List.length_singleton]; exact hrow
  · intro g hg hq
    rcases hat with h2 | h2
    · exact h.d g hg (by rw [← h2]; exact hq)
    · rw [h2] at hq
      have e : w1.heap.size = g := by simpa using hq
      have := h.rl.lt hg
      omega
  · have := h.oq g hg
    exact ⟨by omega, by omega, this.2⟩
theorem SMR.popR {a' : Option Addr} {c' x : Nat} {q : List Nat} (h : SMR w0 w L n D S Prot lv qv (.slice a' (q.length + 1) c') (q ++ [x])) : SMR w0 w L n D S Prot lv qv (.slice a' q.length c') q := by
  refine ⟨h.c, h.rl, ?_, h.ol, fun g hg => h.oq g (by cases a' <;> exact hg), fun g hg e => h.d g hg (by cases a' <;> exact e), h.f, h.p⟩
  have := h.rr
  rw [List.length_append, List.length_singleton] at this
  exact this.popL
/-- The search begins. -/
theorem SMF.ready {qa : Option Addr} {qc : Nat} (h : SMF w0 w L n D S Prot lv (.slice qa 0 qc)) (hq : S.queue = []) : SMR w0 w L n D S Prot lv (.slice qa 0 qc) (.slice qa 0 qc) [] := by
  have := h.m.rq
  rw [hq] at this
  exact ⟨h.m.c, h.m.rl, this, h.m.ol, h.m.oq, h.m.d, h.f, h.p⟩
/-- The search's list goes back. -/
theorem SMR.back (h : SMR w0 w L n D S Prot lv qv rv rd) (hu : Upd w w' (L.s + 9) 61 ((solCells L n D.length lv S.looked qv).set 13 rv)) : SMF w0 w' L n D { S with queue := rd } Prot lv rv := by
  refine ⟨⟨h.c.setQueue hu, h.rl.fr hu.fr (fun k hk hx => by have := h.ol k hk; omega), h.rr.fr hu.fr (fun k hk hx => by have := h.oq k hk; omega), h.ol, h.oq, h.d⟩, h.f.trans (hu.fr.mono (fun k _ hk => ?_)), h.p⟩
  subst hk
  exact ⟨by omega, by omega, fun hp => by have := (h.p _ hp).2; omega⟩
theorem SMR.base (h : SMR w0 w L n D S Prot lv qv rv rd) : SMR w w L n D S Prot lv qv rv rd := ⟨h.c, h.rl, h.rr, h.ol, h.oq, h.d, Fr.refl _ _, fun g hg => ⟨Nat.lt_of_lt_of_le (h.p g hg).1 h.f.size, (h.p g hg).2⟩⟩
end
/-! ### What the search reckons -/
def condN (part : Nat) (S : SS) (b : Nat) : Bool := decide (S.part.getD b 0 = (part : Int) ∧ S.val.getD b 0 = 1 ∧ S.source.getD b 0 < 0)
def needs (D : List Rl) (part : Nat) (S : SS) (r : Nat) : Nat := (D.getD r rl0).all.countP (condN part S)
def setN (D : List Rl) (part : Nat) (S : SS) (r : Nat) : SS := { S with need := S.need.set r (needs D part S r : Int) }
end Go.Proofs.Qxb6600121a
