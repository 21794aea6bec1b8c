/-
  MEMORY BESIDE THE SOLVER: counts, a table that grows, a stack (for the walks of law 9 and of zzLeast).
-/
import Derived.Test.Qxb6600121aSolP
namespace Go.Proofs.Qxb6600121a
open Go
section
variable {w0 w w' w1 w2 w3 w4 : World} {L : Lay} {n : Nat} {D : List Rl} {S : SS} {Prot : Nat → Prop} {lv qv : Value}
/-- Only new blocks were turned: the solver stands. -/
theorem SMF.keep (h : SMF w w L n D S Prot lv qv) (hf : Fr (fun _ => False) w w') : SMF w' w' L n D S Prot lv qv :=
  ⟨⟨h.m.c.fr hf (fun _ e => e.elim), h.m.rl.fr hf (fun _ _ e => e), h.m.rq.fr hf (fun _ _ e => e), h.m.ol, h.m.oq, h.m.d⟩, Fr.refl _ _, fun g hg => ⟨Nat.lt_of_lt_of_le (h.p g hg).1 hf.size, (h.p g hg).2⟩⟩
/-! ### Counts and a table that grows; block p is none of its rows -/
structure P1M (w0 w : World) (s n p : Nat) (cnt : List Int) (rev : List (List Nat)) : Prop where
  f : Fr (fun _ => False) w0 w
  z : s + 2 ≤ w.heap.size
  lo : w0.heap.size ≤ s
  bc : Blk w.heap s 3 (ints cnt)
  t : ∃ own vs, Tab w.heap own (s + 2) n 0 (s + 1) rev vs ∧ ∀ b, b < n → ∀ g, (vs.getD b nilS).ownBlock = some g → g ≠ p
variable {s p : Nat} {cnt cnt' : List Int} {rev : List (List Nat)}
theorem P1M.fr (h : P1M w0 w s n p cnt rev) (hf : Fr (fun _ => False) w w') : P1M w0 w' s n p cnt rev := by
  obtain ⟨own, vs, ht, hp⟩ := h.t
  exact ⟨h.f.trans hf, Nat.le_trans h.z hf.size, h.lo, h.bc.fr hf (fun e => e), own, vs, ht.fr hf (fun e => e) (fun _ _ _ _ _ e => e) (fun _ _ => rfl), hp⟩
theorem P1M.re (h : P1M w0 w s n p cnt rev) (p' : Nat) (hp' : w.heap.size ≤ p' ∨ p' < s + 2) : P1M w0 w s n p' cnt rev := by
  obtain ⟨own, vs, ht, -⟩ := h.t
  refine ⟨h.f, h.z, h.lo, h.bc, own, vs, ht, fun b hb g hg e => ?_⟩
  have h1 := (ht.own b hb g hg).2
  have h2 := (ht.row b hb).lt hg
  omega
theorem P1M.inc (h : P1M w0 w s n p cnt rev) (u : Upd w w' s 3 (ints cnt')) : P1M w0 w' s n p cnt' rev := by
  obtain ⟨own, vs, ht, hp⟩ := h.t
  have hz := u.size
  have h1 := h.z
  exact ⟨h.f.upd u h.lo, by omega, h.lo, u.blk, own, vs, ht.fr u.fr (by omega) (fun g a _ hl _ e => by omega) (fun _ _ => rfl), hp⟩
/-! ### Counts and a stack -/
structure KM (wA w : World) (s : Nat) (cnt : List Int) (sv : Value) (st : List Nat) : Prop where
  f : Fr (fun g => g = s) wA w
  lo : s < wA.heap.size
  bc : Blk w.heap s 3 (ints cnt)
  r : Row w.heap 3 1 sv st.length (nats st)
  o : ∀ g, sv.ownBlock = some g → wA.heap.size ≤ g
variable {wA : World} {sv v' : Value} {st : List Nat} {x : Nat}
theorem KM.set (h : KM wA w s cnt sv st) (u : Upd w w' s 3 (ints cnt')) : KM wA w' s cnt' sv st :=
  ⟨h.f.trans u.fr, h.lo, u.blk, h.r.fr u.fr (fun g hg e => by have := h.o g hg; have := h.lo; omega), h.o⟩
theorem KM.push (h : KM wA w s cnt sv st) (k : Newb w w2 3 [.int .i64 (x : Int)]) (hrow : Row w3.heap 3 1 v' (st.length + 1) (nats st ++ [.int .i64 (x : Int)])) (h23 : Fr (fun g => sv.ownBlock = some g) w2 w3)
    (hat : v'.ownBlock = sv.ownBlock ∨ v'.ownBlock = some w2.heap.size) : KM wA w3 s cnt v' (st ++ [x]) := by
  have hl := h.lo
  have hs := h.f.size
  have hk := k.size
  refine ⟨(h.f.newb k).step h23 (fun i hi _ e => by have := h.o i e; omega), h.lo, (h.bc.fr k.fr (fun e => e)).fr h23 (fun e => by have := h.o s e; omega), ?_, fun g hg => ?_⟩
  · rw [List.length_append]
    have e2 : nats (st ++ [x]) = nats st ++ [.int .i64 (x : Int)] := by simp [nats]
    rw [e2]
    exact hrow
  · rcases hat with h5 | h5
    · rw [h5] at hg; exact h.o g hg
    · rw [h5] at hg; cases hg; omega
theorem KM.pop {a : Option Addr} {c : Nat} (h : KM wA w s cnt (.slice a (st.length + 1) c) (st ++ [x])) : KM wA w s cnt (.slice a st.length c) st := by
  have hr := h.r
  rw [List.length_append] at hr
  exact ⟨h.f, h.lo, h.bc, Row.popL hr, fun g hg => h.o g (by cases a <;> exact hg)⟩
/-! ### zzLeast's own blocks -/
structure ZM (w0 w : World) (d blk : List Bool) (cnt : List Int) (sv : Value) (st : List Nat) : Prop where
  f : Fr (fun _ => False) w0 w
  z : w0.heap.size + 3 ≤ w.heap.size
  bd : Blk w.heap w0.heap.size 4 (bools d)
  bc : Blk w.heap (w0.heap.size + 1) 3 (ints cnt)
  bb : Blk w.heap (w0.heap.size + 2) 4 (bools blk)
  r : Row w.heap 3 1 sv st.length (nats st)
  o : ∀ g, sv.ownBlock = some g → w0.heap.size + 3 ≤ g
variable {d d' blk blk' : List Bool}
theorem ZM.fr (h : ZM w0 w d blk cnt sv st) (hf : Fr (fun _ => False) w w') : ZM w0 w' d blk cnt sv st :=
  ⟨h.f.trans hf, Nat.le_trans h.z hf.size, h.bd.fr hf (fun e => e), h.bc.fr hf (fun e => e), h.bb.fr hf (fun e => e), h.r.fr hf (fun _ _ e => e), h.o⟩
theorem ZM.setD (h : ZM w0 w d blk cnt sv st) (u : Upd w w' w0.heap.size 4 (bools d')) : ZM w0 w' d' blk cnt sv st := by
  have hz := u.size
  have h1 := h.z
  exact ⟨h.f.upd u (Nat.le_refl _), by omega, u.blk, h.bc.fr u.fr (by omega), h.bb.fr u.fr (by omega), h.r.fr u.fr (fun g hg e => by have := h.o g hg; omega), h.o⟩
theorem ZM.setC (h : ZM w0 w d blk cnt sv st) (u : Upd w w' (w0.heap.size + 1) 3 (ints cnt')) : ZM w0 w' d blk cnt' sv st := by
  have hz := u.size
  have h1 := h.z
  exact ⟨h.f.upd u (by omega), by omega, h.bd.fr u.fr (by omega), u.blk, h.bb.fr u.fr (by omega), h.r.fr u.fr (fun g hg e => by have := h.o g hg; omega), h.o⟩
theorem ZM.setB (h : ZM w0 w d blk cnt sv st) (u : Upd w w' (w0.heap.size + 2) 4 (bools blk')) : ZM w0 w' d blk' cnt sv st := by
  have hz := u.size
  have h1 := h.z
  exact ⟨h.f.upd u (by omega), by omega, h.bd.fr u.fr (by omega), h.bc.fr u.fr (by omega), u.blk, h.r.fr u.fr (fun g hg e => by have := h.o g hg; omega), h.o⟩
theorem ZM.push (h : ZM w0 w d blk cnt sv st) (k : Newb w w2 3 [.int .i64 (x : Int)]) (hrow : Row w3.heap 3 1 v' (st.length + 1) (nats st ++ [.int .i64 (x : Int)])) (h23 : Fr (fun g => sv.ownBlock = some g) w2 w3)
    (hat : v'.ownBlock = sv.ownBlock ∨ v'.ownBlock = some w2.heap.size) : ZM w0 w3 d blk cnt v' (st ++ [x]) := by
  have h1 := h.z
  have hk := k.size
  have h2 := h23.size
  refine ⟨(h.f.newb k).step h23 (fun i hi _ e => by have := h.o i e; omega), by omega, (h.bd.fr k.fr (fun e => e)).fr h23 (fun e => by have := h.o _ e; omega), (h.bc.fr k.fr (fun e => e)).fr h23 (fun e => by have := h.o _ e; omega), (h.bb.fr k.fr (fun e => e)).fr h23 (fun e => by have := h.o _ e; omega), ?_, fun g hg => ?_⟩
  · rw [List.length_append]
    have e2 : nats (st ++ [x]) = nats st ++ [.int .i64 (x : Int)] := by simp [nats]
    rw [e2]
    exact hrow
  · rcases hat with h5 | h5
    · rw [h5] at hg; exact h.o g hg
    · rw [h5] at hg; cases hg; omega
theorem ZM.pop {a : Option Addr} {c : Nat} (h : ZM w0 w d blk cnt (.slice a (st.length + 1) c) (st ++ [x])) : ZM w0 w d blk cnt (.slice a st.length c) st := by
  have hr := h.r
  rw [List.length_append] at hr
  exact ⟨h.f, h.z, h.bd, h.bc, h.bb, Row.popL hr, fun g hg => h.o g (by cases a <;> exact hg)⟩
/-- 'rev[b] = append(rev[b], a)' -/
theorem P1M.push {vs : List Value} {own : Nat → Nat × Nat} {a b : Nat} (h : P1M w0 w1 s n p cnt rev) (ht : Tab w1.heap own (s + 2) n 0 (s + 1) rev vs) (hnp : ∀ b, b < n → ∀ g, (vs.getD b nilS).ownBlock = some g → g ≠ p) (hp : p < w1.heap.size) (hb : b < n) (h12 : Newb w1 w2 3 [.int .i64 (a : Int)])
    (hrow : Row w3.heap 3 1 v' ((rev.getD b []).length + 1) (nats (rev.getD b []) ++ [.int .i64 (a : Int)])) (h23 : Fr (fun k => (vs.getD b nilS).ownBlock = some k) w2 w3)
    (hat : v'.ownBlock = (vs.getD b nilS).ownBlock ∨ v'.ownBlock = some w2.heap.size) (h34 : Upd w3 w4 (s + 1) 27 (vs.set b v')) : P1M w0 w4 s n p cnt (addTo rev b a) := by
  have h1 := h.z
  have hs2 := h12.size
  have hs3 := h23.size
  have hs4 := h34.size
  have hlo := h.lo
  refine ⟨((h.f.newb h12).step h23 (fun i hi _ e => by have := (ht.own _ hb _ e).2; omega)).upd h34 (by omega), by omega, h.lo, ?_, _, _, ht.push hb h.z (by omega) h12 hrow h23 hat h34, fun c hc g hg e => ?_⟩
  · exact ((h.bc.fr h12.fr (fun e => e)).fr h23 (fun e => by have := (ht.own _ hb _ e).2; omega)).fr h34.fr (by omega)
  · by_cases hbc : b = c
    · subst hbc
      have e1 : (vs.set b v').getD b nilS = v' := by simp [List.getD_eq_getElem?_getD, ht.len, hb]
      rw [e1] at hg
      rcases hat with h5 | h5
      · rw [h5] at hg; exact hnp b hb g hg e
      · rw [h5] at hg; cases hg; omega
    · have e1 : (vs.set b v').getD c nilS = vs.getD c nilS := by simp [List.getD_eq_getElem?_getD, List.getElem?_set_ne hbc]
      rw [e1] at hg
      exact hnp c hc g hg e
theorem P1M.pushB {vs : List Value} {own : Nat → Nat × Nat} {a b te : Nat} {cs : List Value} (_h : P1M w0 w1 s n p cnt rev) (_ht : Tab w1.heap own (s + 2) n 0 (s + 1) rev vs) (hnp : ∀ b, b < n → ∀ g, (vs.getD b nilS).ownBlock = some g → g ≠ p) (hb : b < n) (hps : s + 1 < p) (hB : Blk w1.heap p te cs) (h12 : Newb w1 w2 3 [.int .i64 (a : Int)])
    (h23 : Fr (fun k => (vs.getD b nilS).ownBlock = some k) w2 w3) (h34 : Upd w3 w4 (s + 1) 27 (vs.set b v')) : Blk w4.heap p te cs :=
  ((hB.fr h12.fr (fun e => e)).fr h23 (fun e => hnp b hb p e rfl)).fr h34.fr (by omega)
end
end Go.Proofs.Qxb6600121a
