/-
  THE SOLVER IN MEMORY (4): its birth, and blocks beside it.
-/
import Derived.Test.Qxb6600121aLaw7
namespace Go.Proofs.Qxb6600121a
open Go
section
variable {w0 w w' : World} {L : Lay} {n : Nat} {D : List Rl} {S : SS} {Prot : Nat → Prop} {lv qv : Value}
theorem smf_start (h : SolC w.heap L n D (ss0 n D.length) nilS nilS) : SMF w w L n D (ss0 n D.length) (fun _ => False) nilS nilS :=
  ⟨⟨h, Row.nil _ _ _, Row.nil _ _ _, fun g hg => (by cases hg), fun g hg => (by cases hg), fun g hg => (by cases hg)⟩, Fr.refl _ _, fun g hg => hg.elim⟩
/-- A new block is kept from now on. -/
theorem SMF.widen {te : Nat} {cs : List Value} (h : SMF w w L n D S Prot lv qv) (hn : Newb w w' te cs) : SMF w' w' L n D S (fun g => Prot g ∨ g = w.heap.size) lv qv := by
  have h1 := (h.newb hn).m
  have l := h.lt
  have s := hn.size
  refine ⟨⟨h1.c, h1.rl, h1.rq, fun g hg => ⟨(h1.ol g hg).1, ?_⟩, fun g hg => ⟨(h1.oq g hg).1, ?_⟩, h1.d⟩, Fr.refl _ _, ?_⟩
  · rintro (e | e)
    · exact (h1.ol g hg).2 e
    · have := h.m.rl.lt hg; omega
  · rintro (e | e)
    · exact (h1.oq g hg).2 e
    · have := h.m.rq.lt hg; omega
  · rintro g (e | e)
    · have := h.p g e; omega
    · omega
/-- A store into a block beside. -/
theorem SMF.beside {g te : Nat} {cs : List Value} (h : SMF w w L n D S Prot lv qv) (hu : Upd w w' g te cs) (hg : Prot g) (hs : L.s + 9 < g) : SMF w' w' L n D S Prot lv qv := by
  have s := hu.size
  refine ⟨⟨h.m.c.fr hu.fr (fun k hk => by omega), h.m.rl.fr hu.fr (fun k hk e => by subst e; exact (h.m.ol k hk).2 hg), h.m.rq.fr hu.fr (fun k hk e => by subst e; exact (h.m.oq k hk).2 hg), h.m.ol, h.m.oq, h.m.d⟩, Fr.refl _ _, fun k hk => by have := h.p k hk; omega⟩
theorem tuTrue (D : List Rl) (n : Nat) : TU D n (fun _ => True) (fun _ => False) := ⟨fun _ _ _ _ => trivial, fun _ _ _ _ => fun e => e⟩
end
end Go.Proofs.Qxb6600121a
