/-
  THE COMPONENTS' STATE: as a function, and in memory. Partly written by program (wip/gen/gtj.py).
-/
import Derived.Test.Qxb6600121aSol
namespace Go.Proofs.Qxb6600121a
open Go

/-- An atom being visited: the rule of it and the place in that rule's body to follow next. -/
structure Fm where
  a : Nat
  r : Nat
  i : Nat
/-- 'stack' and 'calls': the last one first. -/
structure TJ where
  index : List Nat
  low : List Nat
  opn : List Bool
  stack : List Nat
  atoms : List Nat
  ends : List Nat
  calls : List Fm
  visited : Nat
def ts0 (n : Nat) : TJ := ⟨List.replicate n 0, List.replicate n 0, List.replicate n false, [], [], [], [], 0⟩
def TJ.visit (t : TJ) (a : Nat) : TJ :=
  { t with visited := t.visited + 1, index := t.index.set a (t.visited + 1), low := t.low.set a (t.visited + 1), stack := a :: t.stack, opn := t.opn.set a true, calls := ⟨a, 0, 0⟩ :: t.calls }
/-- Pop the stack down to 'a'. -/
def popTo (a : Nat) : List Nat → TJ → TJ
  | [], t => t
  | x :: st, t => if x = a then { t with stack := st, opn := t.opn.set x false, atoms := t.atoms ++ [x] }
      else popTo a st { t with stack := st, opn := t.opn.set x false, atoms := t.atoms ++ [x] }
def TJ.follow (t : TJ) (f : Fm) (rest : List Fm) (dep : Nat) : TJ :=
  if t.index.getD dep 0 = 0 then ({ t with calls := ⟨f.a, f.r, f.i + 1⟩ :: rest } : TJ).visit dep
  else if t.opn.getD dep false = true then { t with calls := ⟨f.a, f.r, f.i + 1⟩ :: rest, low := t.low.set f.a (if t.index.getD dep 0 < t.low.getD f.a 0 then t.index.getD dep 0 else t.low.getD f.a 0) }
  else { t with calls := ⟨f.a, f.r, f.i + 1⟩ :: rest }
def TJ.up (t : TJ) (a : Nat) : List Fm → TJ
  | [] => { t with calls := [] }
  | c :: rest => { t with calls := c :: rest, low := t.low.set c.a (if t.low.getD a 0 < t.low.getD c.a 0 then t.low.getD a 0 else t.low.getD c.a 0) }
def TJ.close (t : TJ) (a : Nat) : TJ :=
  if t.low.getD a 0 ≠ t.index.getD a 0 then t
  else { popTo a t.stack t with ends := t.ends ++ [(popTo a t.stack t).atoms.length] }
/-- One round of the inner loop. -/
def tstep (D : List Rl) (n : Nat) (t : TJ) : TJ :=
  match t.calls with
  | [] => t
  | f :: rest =>
    if f.r < ((idxH D n D.length).getD f.a []).length then
      if f.i < (D.getD (((idxH D n D.length).getD f.a []).getD f.r 0) rl0).all.length then t.follow f rest ((D.getD (((idxH D n D.length).getD f.a []).getD f.r 0) rl0).all.getD f.i 0)
      else if f.i < (D.getD (((idxH D n D.length).getD f.a []).getD f.r 0) rl0).all.length + (D.getD (((idxH D n D.length).getD f.a []).getD f.r 0) rl0).unl.length then
        t.follow f rest ((D.getD (((idxH D n D.length).getD f.a []).getD f.r 0) rl0).unl.getD (f.i - (D.getD (((idxH D n D.length).getD f.a []).getD f.r 0) rl0).all.length) 0)
      else { t with calls := ⟨f.a, f.r + 1, 0⟩ :: rest }
    else (t.up f.a rest).close f.a
/-- What a round's walk leans on. -/
structure Safe (n : Nat) (t : TJ) : Prop where
  fa : ∀ f ∈ t.calls, f.a < n
  st : ∀ x ∈ t.stack, x < n
  fs : ∀ f ∈ t.calls, f.a ∈ t.stack
  nc : t.calls.length ≤ n
  ns : t.atoms.length + t.stack.length ≤ n
  nv : t.visited ≤ n
  ne : t.ends.length ≤ n

/-! ### In memory -/
def fcell (f : Fm) : List Value := [.int .i64 (f.a : Int), .int .i64 (f.r : Int), .int .i64 (f.i : Int)]
def fcells (fs : List Fm) : List Value := fs.flatMap fcell
theorem fcells_len (fs : List Fm) : (fcells fs).length = fs.length * 3 := by
  induction fs with
  | nil => rfl
  | cons f fs ih => simp only [fcells, List.flatMap_cons, List.length_append, List.length_cons] at ih ⊢; rw [ih]; simp [fcell]; omega
theorem fcells_app (fs gs : List Fm) : fcells (fs ++ gs) = fcells fs ++ fcells gs := by simp [fcells]
structure TB where
  s : Nat
  aI : Nat
  aL : Nat
  bI : Nat
  bL : Nat
structure TB.ok (B : TB) : Prop where
  i1 : B.s ≤ B.aI ∧ B.aI < B.s + 4
  i2 : B.s ≤ B.aL ∧ B.aL < B.s + 4
  i3 : B.s ≤ B.bI ∧ B.bI < B.s + 4
  i4 : B.s ≤ B.bL ∧ B.bL < B.s + 4
  d1 : B.aI ≠ B.aL
  d2 : B.aI ≠ B.bI
  d3 : B.aI ≠ B.bL
  d4 : B.aL ≠ B.bI
  d5 : B.aL ≠ B.bL
  d6 : B.bI ≠ B.bL
/-- A row with an owner. -/
structure Vec (h : Array Obj) (own : Nat → Nat) (s role e sz : Nat) (v : Value) (n : Nat) (cs : List Value) : Prop where
  row : Row h e sz v n cs
  own : ∀ g, v.ownBlock = some g → own g = role ∧ (s + 10 ≤ g ∨ g = s + 7)
theorem Vec.fr {X : Nat → Prop} {w w' : World} {own own' : Nat → Nat} {s role e sz : Nat} {v : Value} {n : Nat} {cs : List Value} (h : Vec w.heap own s role e sz v n cs) (hf : Fr X w w')
    (hX : ∀ g, own g = role → (s + 10 ≤ g ∨ g = s + 7) → ¬ X g) (hown : ∀ g, g < w.heap.size → own' g = own g) : Vec w'.heap own' s role e sz v n cs :=
  ⟨h.row.fr hf fun g hg => hX g (h.own g hg).1 (h.own g hg).2, fun g hg => by rw [hown g (h.row.lt hg)]; exact h.own g hg⟩
theorem Row.blk {h : Array Obj} {e : TypeId} {sz : Nat} {v : Value} {n : Nat} {xs : List Value} (hr : Row h e sz v n xs) (hn : 0 < n) :
    ∃ g cap cs, v = .slice (some ⟨g, 0, none⟩) n cap ∧ n ≤ cap ∧ cap ≤ maxLen ∧ Blk h g e cs ∧ cs.length = cap * sz ∧ cs.take (n * sz) = xs := by
  rcases hr.2 with ⟨_, h0⟩ | ⟨g, cap, cur, h1, h2, h3, h4, h5, h6⟩
  · omega
  · exact ⟨g, cap, cur.toList, h1, h3, h4, by simpa [Blk] using h2, by simpa using h5, h6⟩
theorem Row.set {w w' : World} {e : TypeId} {sz g n cap : Nat} {cs xs : List Value} (hn : n ≤ cap) (hc : cap ≤ maxLen) (hl : cs.length = cap * sz) (ht : cs.take (n * sz) = xs) {j : Nat} {v : Value} (_hj : j < n * sz) (hu : Upd w w' g e (cs.set j v)) :
    Row w'.heap e sz (.slice (some ⟨g, 0, none⟩) n cap) n (xs.set j v) := by
  have := Row.of_blk (n := n) (c := cap) (sz := sz) hu.blk hn hc (by simpa using hl)
  rw [List.take_set, ht] at this
  exact this
structure TMem (h : Array Obj) (own : Nat → Nat) (B : TB) (n : Nat) (t : TJ) (sv cv av ev : Value) : Prop where
  boxI : Blk h B.bI 27 [.slice (some ⟨B.aI, 0, none⟩) n n]
  boxL : Blk h B.bL 27 [.slice (some ⟨B.aL, 0, none⟩) n n]
  boxO : Blk h (B.s + 5) 37 [.slice (some ⟨B.s + 4, 0, none⟩) n n]
  boxS : Blk h (B.s + 6) 27 [sv]
  boxC : Blk h (B.s + 8) 66 [cv]
  boxV : Blk h (B.s + 9) 3 [.int .i64 (t.visited : Int)]
  arrI : Blk h B.aI 3 (nats t.index)
  arrL : Blk h B.aL 3 (nats t.low)
  arrO : Blk h (B.s + 4) 4 (bools t.opn)
  vS : Vec h own B.s 1 3 1 sv t.stack.length (nats t.stack.reverse)
  vC : Vec h own B.s 2 68 3 cv t.calls.length (fcells t.calls.reverse)
  vA : Vec h own B.s 3 3 1 av t.atoms.length (nats t.atoms)
  vE : Vec h own B.s 4 3 1 ev t.ends.length (nats t.ends)
  nI : t.index.length = n
  nL : t.low.length = n
  nO : t.opn.length = n
section
variable {w w' w1 w2 w3 w4 : World} {own : Nat → Nat} {B : TB} {n : Nat} {t : TJ} {sv cv av ev : Value}
theorem TMem.cI {h : Array Obj} (m : TMem h own B n t sv cv av ev) : cel h B.bI 0 = some (.slice (some ⟨B.aI, 0, none⟩) n n) := by rw [m.boxI.cel]; rfl
theorem TMem.cL {h : Array Obj} (m : TMem h own B n t sv cv av ev) : cel h B.bL 0 = some (.slice (some ⟨B.aL, 0, none⟩) n n) := by rw [m.boxL.cel]; rfl
theorem TMem.cO {h : Array Obj} (m : TMem h own B n t sv cv av ev) : cel h (B.s + 5) 0 = some (.slice (some ⟨B.s + 4, 0, none⟩) n n) := by rw [m.boxO.cel]; rfl
theorem TMem.cS {h : Array Obj} (m : TMem h own B n t sv cv av ev) : cel h (B.s + 6) 0 = some sv := by rw [m.boxS.cel]; rfl
theorem TMem.cC {h : Array Obj} (m : TMem h own B n t sv cv av ev) : cel h (B.s + 8) 0 = some cv := by rw [m.boxC.cel]; rfl
theorem TMem.cV {h : Array Obj} (m : TMem h own B n t sv cv av ev) : cel h (B.s + 9) 0 = some (.int .i64 (t.visited : Int)) := by rw [m.boxV.cel]; rfl
theorem TMem.gI {h : Array Obj} (m : TMem h own B n t sv cv av ev) {k : Nat} (hk : k < n) : cel h B.aI k = some (.int .i64 ((t.index.getD k 0 : Nat) : Int)) := m.arrI.cN (by rw [m.nI]; exact hk)
theorem TMem.gL {h : Array Obj} (m : TMem h own B n t sv cv av ev) {k : Nat} (hk : k < n) : cel h B.aL k = some (.int .i64 ((t.low.getD k 0 : Nat) : Int)) := m.arrL.cN (by rw [m.nL]; exact hk)
theorem TMem.gO {h : Array Obj} (m : TMem h own B n t sv cv av ev) {k : Nat} (hk : k < n) : cel h (B.s + 4) k = some (.bool (t.opn.getD k false)) := m.arrO.cB (by rw [m.nO]; exact hk)
theorem TMem.lt {h : Array Obj} (m : TMem h own B n t sv cv av ev) : B.s + 9 < h.size := m.boxV.lt
theorem TMem.newb (m : TMem w.heap own B n t sv cv av ev) {te : Nat} {cs : List Value} (hn : Newb w w' te cs) : TMem w'.heap own B n t sv cv av ev :=
  ⟨m.boxI.fr hn.fr (fun h => h), m.boxL.fr hn.fr (fun h => h), m.boxO.fr hn.fr (fun h => h), m.boxS.fr hn.fr (fun h => h), m.boxC.fr hn.fr (fun h => h), m.boxV.fr hn.fr (fun h => h), m.arrI.fr hn.fr (fun h => h), m.arrL.fr hn.fr (fun h => h), m.arrO.fr hn.fr (fun h => h),
    m.vS.fr hn.fr (fun _ _ _ h => h) (fun _ _ => rfl), m.vC.fr hn.fr (fun _ _ _ h => h) (fun _ _ => rfl), m.vA.fr hn.fr (fun _ _ _ h => h) (fun _ _ => rfl), m.vE.fr hn.fr (fun _ _ _ h => h) (fun _ _ => rfl), m.nI, m.nL, m.nO⟩
/-- A store into a block that is none of theirs. -/
theorem TMem.upd_new (m : TMem w.heap own B n t sv cv av ev) {g te : Nat} {cs : List Value} (hg : w1.heap.size ≤ g) (h1 : TMem w1.heap own B n t sv cv av ev) (hu : Upd w w' g te cs) : TMem w'.heap own B n t sv cv av ev := by
  have l := h1.lt
  have q1 := h1.boxI.lt
  have q2 := h1.boxL.lt
  have q3 := h1.arrI.lt
  have q4 := h1.arrL.lt
  refine ⟨m.boxI.fr hu.fr (by omega), m.boxL.fr hu.fr (by omega), m.boxO.fr hu.fr (by omega), m.boxS.fr hu.fr (by omega), m.boxC.fr hu.fr (by omega), m.boxV.fr hu.fr (by omega), m.arrI.fr hu.fr (by omega), m.arrL.fr hu.fr (by omega), m.arrO.fr hu.fr (by omega), ?_, ?_, ?_, ?_, m.nI, m.nL, m.nO⟩
  · exact ⟨m.vS.row.fr hu.fr (fun b hb e => by have := h1.vS.row.lt hb; omega), m.vS.own⟩
  · exact ⟨m.vC.row.fr hu.fr (fun b hb e => by have := h1.vC.row.lt hb; omega), m.vC.own⟩
  · exact ⟨m.vA.row.fr hu.fr (fun b hb e => by have := h1.vA.row.lt hb; omega), m.vA.own⟩
  · exact ⟨m.vE.row.fr hu.fr (fun b hb e => by have := h1.vE.row.lt hb; omega), m.vE.own⟩
theorem TMem.setLow (hB : B.ok) (m : TMem w.heap own B n t sv cv av ev) {k v : Nat} (hu : Upd w w' B.aL 3 ((nats t.low).set k (.int .i64 (v : Int)))) : TMem w'.heap own B n { t with low := t.low.set k v } sv cv av ev := by
  obtain ⟨i1, i2, i3, i4, d1, d2, d3, d4, d5, d6⟩ := hB
  exact ⟨m.boxI.fr (hu.fr) (by omega),
    m.boxL.fr (hu.fr) (by omega),
    m.boxO.fr (hu.fr) (by omega),
    m.boxS.fr (hu.fr) (by omega),
    m.boxC.fr (hu.fr) (by omega),
    m.boxV.fr (hu.fr) (by omega),
    m.arrI.fr (hu.fr) (by omega),
    by have := hu.blk; rw [nats_set] at this; exact this,
    m.arrO.fr (hu.fr) (by omega),
    m.vS.fr (hu.fr) (fun g _ h2 h3 => by omega) (fun _ _ => rfl),
    m.vC.fr (hu.fr) (fun g _ h2 h3 => by omega) (fun _ _ => rfl),
    m.vA.fr (hu.fr) (fun g _ h2 h3 => by omega) (fun _ _ => rfl),
    m.vE.fr (hu.fr) (fun g _ h2 h3 => by omega) (fun _ _ => rfl),
    m.nI,
    by simpa using m.nL,
    m.nO⟩
theorem TMem.setIndex (hB : B.ok) (m : TMem w.heap own B n t sv cv av ev) {k v : Nat} (hu : Upd w w' B.aI 3 ((nats t.index).set k (.int .i64 (v : Int)))) : TMem w'.heap own B n { t with index := t.index.set k v } sv cv av ev := by
  obtain ⟨i1, i2, i3, i4, d1, d2, d3, d4, d5, d6⟩ := hB
  exact ⟨m.boxI.fr (hu.fr) (by omega),
    m.boxL.fr (hu.fr) (by omega),
    m.boxO.fr (hu.fr) (by omega),
    m.boxS.fr (hu.fr) (by omega),
    m.boxC.fr (hu.fr) (by omega),
    m.boxV.fr (hu.fr) (by omega),
    by have := hu.blk; rw [nats_set] at this; exact this,
    m.arrL.fr (hu.fr) (by omega),
    m.arrO.fr (hu.fr) (by omega),
    m.vS.fr (hu.fr) (fun g _ h2 h3 => by omega) (fun _ _ => rfl),
    m.vC.fr (hu.fr) (fun g _ h2 h3 => by omega) (fun _ _ => rfl),
    m.vA.fr (hu.fr) (fun g _ h2 h3 => by omega) (fun _ _ => rfl),
    m.vE.fr (hu.fr) (fun g _ h2 h3 => by omega) (fun _ _ => rfl),
    by simpa using m.nI,
    m.nL,
    m.nO⟩
theorem TMem.setOpn (hB : B.ok) (m : TMem w.heap own B n t sv cv av ev) {k : Nat} {v : Bool} (hu : Upd w w' (B.s + 4) 4 ((bools t.opn).set k (.bool v))) : TMem w'.heap own B n { t with opn := t.opn.set k v } sv cv av ev := by
  obtain ⟨i1, i2, i3, i4, d1, d2, d3, d4, d5, d6⟩ := hB
  exact ⟨m.boxI.fr (hu.fr) (by omega),
    m.boxL.fr (hu.fr) (by omega),
    m.boxO.fr (hu.fr) (by omega),
    m.boxS.fr (hu.fr) (by omega),
    m.boxC.fr (hu.fr) (by omega),
    m.boxV.fr (hu.fr) (by omega),
    m.arrI.fr (hu.fr) (by omega),
    m.arrL.fr (hu.fr) (by omega),
    by have := hu.blk; rw [bools_set] at this; exact this,
    m.vS.fr (hu.fr) (fun g _ h2 h3 => by omega) (fun _ _ => rfl),
    m.vC.fr (hu.fr) (fun g _ h2 h3 => by omega) (fun _ _ => rfl),
    m.vA.fr (hu.fr) (fun g _ h2 h3 => by omega) (fun _ _ => rfl),
    m.vE.fr (hu.fr) (fun g _ h2 h3 => by omega) (fun _ _ => rfl),
    m.nI,
    m.nL,
    by simpa using m.nO⟩
theorem TMem.setV (hB : B.ok) (m : TMem w.heap own B n t sv cv av ev) {v : Nat} (hu : Upd w w' (B.s + 9) 3 [.int .i64 (v : Int)]) : TMem w'.heap own B n { t with visited := v } sv cv av ev := by
  obtain ⟨i1, i2, i3, i4, d1, d2, d3, d4, d5, d6⟩ := hB
  exact ⟨m.boxI.fr (hu.fr) (by omega),
    m.boxL.fr (hu.fr) (by omega),
    m.boxO.fr (hu.fr) (by omega),
    m.boxS.fr (hu.fr) (by omega),
    m.boxC.fr (hu.fr) (by omega),
    hu.blk,
    m.arrI.fr (hu.fr) (by omega),
    m.arrL.fr (hu.fr) (by omega),
    m.arrO.fr (hu.fr) (by omega),
    m.vS.fr (hu.fr) (fun g _ h2 h3 => by omega) (fun _ _ => rfl),
    m.vC.fr (hu.fr) (fun g _ h2 h3 => by omega) (fun _ _ => rfl),
    m.vA.fr (hu.fr) (fun g _ h2 h3 => by omega) (fun _ _ => rfl),
    m.vE.fr (hu.fr) (fun g _ h2 h3 => by omega) (fun _ _ => rfl),
    m.nI,
    m.nL,
    m.nO⟩
theorem TMem.setS (hB : B.ok) (m : TMem w.heap own B n t sv cv av ev) {sv' : Value} {xs : List Nat} (hu : Upd w w' (B.s + 6) 27 [sv']) (hv : Vec w.heap own B.s 1 3 1 sv' xs.length (nats xs.reverse)) : TMem w'.heap own B n { t with stack := xs } sv' cv av ev := by
  obtain ⟨i1, i2, i3, i4, d1, d2, d3, d4, d5, d6⟩ := hB
  exact ⟨m.boxI.fr (hu.fr) (by omega),
    m.boxL.fr (hu.fr) (by omega),
    m.boxO.fr (hu.fr) (by omega),
    hu.blk,
    m.boxC.fr (hu.fr) (by omega),
    m.boxV.fr (hu.fr) (by omega),
    m.arrI.fr (hu.fr) (by omega),
    m.arrL.fr (hu.fr) (by omega),
    m.arrO.fr (hu.fr) (by omega),
    hv.fr hu.fr (fun g _ h2 h3 => by omega) (fun _ _ => rfl),
    m.vC.fr (hu.fr) (fun g _ h2 h3 => by omega) (fun _ _ => rfl),
    m.vA.fr (hu.fr) (fun g _ h2 h3 => by omega) (fun _ _ => rfl),
    m.vE.fr (hu.fr) (fun g _ h2 h3 => by omega) (fun _ _ => rfl),
    m.nI,
    m.nL,
    m.nO⟩
theorem TMem.setC (hB : B.ok) (m : TMem w.heap own B n t sv cv av ev) {cv' : Value} {fs : List Fm} (hu : Upd w w' (B.s + 8) 66 [cv']) (hv : Vec w.heap own B.s 2 68 3 cv' fs.length (fcells fs.reverse)) : TMem w'.heap own B n { t with calls := fs } sv cv' av ev := by
  obtain ⟨i1, i2, i3, i4, d1, d2, d3, d4, d5, d6⟩ := hB
  exact ⟨m.boxI.fr (hu.fr) (by omega),
    m.boxL.fr (hu.fr) (by omega),
    m.boxO.fr (hu.fr) (by omega),
    m.boxS.fr (hu.fr) (by omega),
    hu.blk,
    m.boxV.fr (hu.fr) (by omega),
    m.arrI.fr (hu.fr) (by omega),
    m.arrL.fr (hu.fr) (by omega),
    m.arrO.fr (hu.fr) (by omega),
    m.vS.fr (hu.fr) (fun g _ h2 h3 => by omega) (fun _ _ => rfl),
    hv.fr hu.fr (fun g _ h2 h3 => by omega) (fun _ _ => rfl),
    m.vA.fr (hu.fr) (fun g _ h2 h3 => by omega) (fun _ _ => rfl),
    m.vE.fr (hu.fr) (fun g _ h2 h3 => by omega) (fun _ _ => rfl),
    m.nI,
    m.nL,
    m.nO⟩
theorem TMem.storeC (hB : B.ok) (m : TMem w.heap own B n t sv cv av ev) {g : Nat} {cs : List Value} {fs : List Fm} (hg : own g = 2 ∧ (B.s + 10 ≤ g ∨ g = B.s + 7)) (hu : Upd w w' g 68 cs) (hr : Row w'.heap 68 3 cv fs.length (fcells fs.reverse)) : TMem w'.heap own B n { t with calls := fs } sv cv av ev := by
  obtain ⟨i1, i2, i3, i4, d1, d2, d3, d4, d5, d6⟩ := hB
  exact ⟨m.boxI.fr (hu.fr) (by omega),
    m.boxL.fr (hu.fr) (by omega),
    m.boxO.fr (hu.fr) (by omega),
    m.boxS.fr (hu.fr) (by omega),
    m.boxC.fr (hu.fr) (by omega),
    m.boxV.fr (hu.fr) (by omega),
    m.arrI.fr (hu.fr) (by omega),
    m.arrL.fr (hu.fr) (by omega),
    m.arrO.fr (hu.fr) (by omega),
    m.vS.fr (hu.fr) (fun g2 h1 h2 h3 => by subst h3; omega) (fun _ _ => rfl),
    ⟨hr, fun g2 hg2 => m.vC.own g2 hg2⟩,
    m.vA.fr (hu.fr) (fun g2 h1 h2 h3 => by subst h3; omega) (fun _ _ => rfl),
    m.vE.fr (hu.fr) (fun g2 h1 h2 h3 => by subst h3; omega) (fun _ _ => rfl),
    m.nI,
    m.nL,
    m.nO⟩
/-- Rows under an append to a row of role r: new blocks are r's. -/
def ownP (own : Nat → Nat) (sz r : Nat) : Nat → Nat := fun g => if g < sz then own g else r
theorem Vec.push {s role e sz k : Nat} {v v' : Value} {cs news : List Value} {te : Nat} {lit : List Value} (h : Vec w1.heap own s role e sz v k cs) (hs : s + 10 ≤ w1.heap.size) (h12 : Newb w1 w2 te lit) (hrow : Row w3.heap e sz v' (k + 1) (cs ++ news))
    (hat : v'.ownBlock = v.ownBlock ∨ v'.ownBlock = some w2.heap.size) : Vec w3.heap (ownP own w1.heap.size role) s role e sz v' (k + 1) (cs ++ news) := by
  refine ⟨hrow, fun g hg => ?_⟩
  have h2 := h12.size
  rcases hat with h5 | h5
  · rw [h5] at hg
    have k := h.own g hg
    have kl := h.row.lt hg
    simp [ownP, kl, k]
  · rw [h5] at hg
    cases hg
    have : ¬ w2.heap.size < w1.heap.size := by omega
    simp [ownP, this]
    omega
theorem Vec.push_other {s role role' e sz e' sz' k k' : Nat} {v v' : Value} {cs cs' : List Value} {te : Nat} {lit : List Value} (h : Vec w1.heap own s role e sz v k cs) (h' : Vec w1.heap own s role' e' sz' v' k' cs') (hne : role ≠ role') (h12 : Newb w1 w2 te lit)
    (h23 : Fr (fun g => v.ownBlock = some g) w2 w3) : Vec w3.heap (ownP own w1.heap.size role) s role' e' sz' v' k' cs' := by
  have a1 := h'.fr (own' := ownP own w1.heap.size role) h12.fr (fun _ _ _ h => h) (fun g hg => by simp [ownP, hg])
  refine ⟨a1.row.fr h23 fun g hg hg2 => ?_, a1.own⟩
  have q1 := (h.own g hg2).1
  have q2 := (h'.own g hg).1
  omega
theorem TMem.pushA (hB : B.ok) (m : TMem w1.heap own B n t sv cv av ev) {v' : Value} {x : Nat} {te : Nat} {lit : List Value} (h12 : Newb w1 w2 te lit) (hrow : Row w3.heap 3 1 v' (t.atoms.length + 1) (nats t.atoms ++ [.int .i64 (x : Int)])) (h23 : Fr (fun g => av.ownBlock = some g) w2 w3) (hat : v'.ownBlock = av.ownBlock ∨ v'.ownBlock = some w2.heap.size) :
    TMem w3.heap (ownP own w1.heap.size 3) B n { t with atoms := t.atoms ++ [x] } sv cv v' ev := by
  obtain ⟨i1, i2, i3, i4, d1, d2, d3, d4, d5, d6⟩ := hB
  have l := m.lt
  have vnew := (m.vA.push (by omega) h12 hrow hat : Vec w3.heap (ownP own w1.heap.size 3) B.s 3 3 1 v' (t.atoms.length + 1) (nats t.atoms ++ [.int .i64 (x : Int)]))
  have e1 : nats (t.atoms ++ [x]) = nats t.atoms ++ [.int .i64 (x : Int)] := by simp [nats]
  have e2 : (t.atoms ++ [x]).length = t.atoms.length + 1 := by simp
  rw [← e1, ← e2] at vnew
  exact ⟨(m.boxI.fr h12.fr (fun h => h)).fr h23 (fun e => by have := (m.vA.own _ e).2; omega),
    (m.boxL.fr h12.fr (fun h => h)).fr h23 (fun e => by have := (m.vA.own _ e).2; omega),
    (m.boxO.fr h12.fr (fun h => h)).fr h23 (fun e => by have := (m.vA.own _ e).2; omega),
    (m.boxS.fr h12.fr (fun h => h)).fr h23 (fun e => by have := (m.vA.own _ e).2; omega),
    (m.boxC.fr h12.fr (fun h => h)).fr h23 (fun e => by have := (m.vA.own _ e).2; omega),
    (m.boxV.fr h12.fr (fun h => h)).fr h23 (fun e => by have := (m.vA.own _ e).2; omega),
    (m.arrI.fr h12.fr (fun h => h)).fr h23 (fun e => by have := (m.vA.own _ e).2; omega),
    (m.arrL.fr h12.fr (fun h => h)).fr h23 (fun e => by have := (m.vA.own _ e).2; omega),
    (m.arrO.fr h12.fr (fun h => h)).fr h23 (fun e => by have := (m.vA.own _ e).2; omega),
    m.vA.push_other m.vS (by decide) h12 h23,
    m.vA.push_other m.vC (by decide) h12 h23,
    vnew,
    m.vA.push_other m.vE (by decide) h12 h23,
    m.nI,
    m.nL,
    m.nO⟩
theorem TMem.pushE (hB : B.ok) (m : TMem w1.heap own B n t sv cv av ev) {v' : Value} {x : Nat} {te : Nat} {lit : List Value} (h12 : Newb w1 w2 te lit) (hrow : Row w3.heap 3 1 v' (t.ends.length + 1) (nats t.ends ++ [.int .i64 (x : Int)])) (h23 : Fr (fun g => ev.ownBlock = some g) w2 w3) (hat : v'.ownBlock = ev.ownBlock ∨ v'.ownBlock = some w2.heap.size) :
    TMem w3.heap (ownP own w1.heap.size 4) B n { t with ends := t.ends ++ [x] } sv cv av v' := by
  obtain ⟨i1, i2, i3, i4, d1, d2, d3, d4, d5, d6⟩ := hB
  have l := m.lt
  have vnew := (m.vE.push (by omega) h12 hrow hat : Vec w3.heap (ownP own w1.heap.size 4) B.s 4 3 1 v' (t.ends.length + 1) (nats t.ends ++ [.int .i64 (x : Int)]))
  have e1 : nats (t.ends ++ [x]) = nats t.ends ++ [.int .i64 (x : Int)] := by simp [nats]
  have e2 : (t.ends ++ [x]).length = t.ends.length + 1 := by simp
  rw [← e1, ← e2] at vnew
  exact ⟨(m.boxI.fr h12.fr (fun h => h)).fr h23 (fun e => by have := (m.vE.own _ e).2; omega),
    (m.boxL.fr h12.fr (fun h => h)).fr h23 (fun e => by have := (m.vE.own _ e).2; omega),
    (m.boxO.fr h12.fr (fun h => h)).fr h23 (fun e => by have := (m.vE.own _ e).2; omega),
    (m.boxS.fr h12.fr (fun h => h)).fr h23 (fun e => by have := (m.vE.own _ e).2; omega),
    (m.boxC.fr h12.fr (fun h => h)).fr h23 (fun e => by have := (m.vE.own _ e).2; omega),
    (m.boxV.fr h12.fr (fun h => h)).fr h23 (fun e => by have := (m.vE.own _ e).2; omega),
    (m.arrI.fr h12.fr (fun h => h)).fr h23 (fun e => by have := (m.vE.own _ e).2; omega),
    (m.arrL.fr h12.fr (fun h => h)).fr h23 (fun e => by have := (m.vE.own _ e).2; omega),
    (m.arrO.fr h12.fr (fun h => h)).fr h23 (fun e => by have := (m.vE.own _ e).2; omega),
    m.vE.push_other m.vS (by decide) h12 h23,
    m.vE.push_other m.vC (by decide) h12 h23,
    m.vE.push_other m.vA (by decide) h12 h23,
    vnew,
    m.nI,
    m.nL,
    m.nO⟩
theorem TMem.pushS (hB : B.ok) (m : TMem w1.heap own B n t sv cv av ev) {v' : Value} {x : Nat} {te : Nat} {lit : List Value} (h12 : Newb w1 w2 te lit) (hrow : Row w3.heap 3 1 v' (t.stack.length + 1) (nats t.stack.reverse ++ [.int .i64 (x : Int)])) (h23 : Fr (fun g => sv.ownBlock = some g) w2 w3) (hat : v'.ownBlock = sv.ownBlock ∨ v'.ownBlock = some w2.heap.size)
    (h34 : Upd w3 w4 (B.s + 6) 27 [v']) : TMem w4.heap (ownP own w1.heap.size 1) B n { t with stack := x :: t.stack } v' cv av ev := by
  obtain ⟨i1, i2, i3, i4, d1, d2, d3, d4, d5, d6⟩ := hB
  have l := m.lt
  have vnew := (m.vS.push (by omega) h12 hrow hat : Vec w3.heap (ownP own w1.heap.size 1) B.s 1 3 1 v' (t.stack.length + 1) (nats t.stack.reverse ++ [.int .i64 (x : Int)]))
  have e1 : nats (x :: t.stack).reverse = nats t.stack.reverse ++ [.int .i64 (x : Int)] := by simp [nats]
  have e2 : (x :: t.stack).length = t.stack.length + 1 := by simp
  rw [← e1, ← e2] at vnew
  exact ⟨((m.boxI.fr h12.fr (fun h => h)).fr h23 (fun e => by have := (m.vS.own _ e).2; omega)).fr h34.fr (by omega),
    ((m.boxL.fr h12.fr (fun h => h)).fr h23 (fun e => by have := (m.vS.own _ e).2; omega)).fr h34.fr (by omega),
    ((m.boxO.fr h12.fr (fun h => h)).fr h23 (fun e => by have := (m.vS.own _ e).2; omega)).fr h34.fr (by omega),
    h34.blk,
    ((m.boxC.fr h12.fr (fun h => h)).fr h23 (fun e => by have := (m.vS.own _ e).2; omega)).fr h34.fr (by omega),
    ((m.boxV.fr h12.fr (fun h => h)).fr h23 (fun e => by have := (m.vS.own _ e).2; omega)).fr h34.fr (by omega),
    ((m.arrI.fr h12.fr (fun h => h)).fr h23 (fun e => by have := (m.vS.own _ e).2; omega)).fr h34.fr (by omega),
    ((m.arrL.fr h12.fr (fun h => h)).fr h23 (fun e => by have := (m.vS.own _ e).2; omega)).fr h34.fr (by omega),
    ((m.arrO.fr h12.fr (fun h => h)).fr h23 (fun e => by have := (m.vS.own _ e).2; omega)).fr h34.fr (by omega),
    vnew.fr h34.fr (fun g _ h2 h3 => by omega) (fun _ _ => rfl),
    (m.vS.push_other m.vC (by decide) h12 h23).fr h34.fr (fun g _ h2 h3 => by omega) (fun _ _ => rfl),
    (m.vS.push_other m.vA (by decide) h12 h23).fr h34.fr (fun g _ h2 h3 => by omega) (fun _ _ => rfl),
    (m.vS.push_other m.vE (by decide) h12 h23).fr h34.fr (fun g _ h2 h3 => by omega) (fun _ _ => rfl),
    m.nI,
    m.nL,
    m.nO⟩
theorem TMem.pushC (hB : B.ok) (m : TMem w1.heap own B n t sv cv av ev) {v' : Value} {f : Fm} {te : Nat} {lit : List Value} (h12 : Newb w1 w2 te lit) (hrow : Row w3.heap 68 3 v' (t.calls.length + 1) (fcells t.calls.reverse ++ fcell f)) (h23 : Fr (fun g => cv.ownBlock = some g) w2 w3) (hat : v'.ownBlock = cv.ownBlock ∨ v'.ownBlock = some w2.heap.size)
    (h34 : Upd w3 w4 (B.s + 8) 66 [v']) : TMem w4.heap (ownP own w1.heap.size 2) B n { t with calls := f :: t.calls } sv v' av ev := by
  obtain ⟨i1, i2, i3, i4, d1, d2, d3, d4, d5, d6⟩ := hB
  have l := m.lt
  have vnew := (m.vC.push (by omega) h12 hrow hat : Vec w3.heap (ownP own w1.heap.size 2) B.s 2 68 3 v' (t.calls.length + 1) (fcells t.calls.reverse ++ fcell f))
  have e1 : fcells (f :: t.calls).reverse = fcells t.calls.reverse ++ fcell f := by simp [fcells]
  have e2 : (f :: t.calls).length = t.calls.length + 1 := by simp
  rw [← e1, ← e2] at vnew
  exact ⟨((m.boxI.fr h12.fr (fun h => h)).fr h23 (fun e => by have := (m.vC.own _ e).2; omega)).fr h34.fr (by omega),
    ((m.boxL.fr h12.fr (fun h => h)).fr h23 (fun e => by have := (m.vC.own _ e).2; omega)).fr h34.fr (by omega),
    ((m.boxO.fr h12.fr (fun h => h)).fr h23 (fun e => by have := (m.vC.own _ e).2; omega)).fr h34.fr (by omega),
    ((m.boxS.fr h12.fr (fun h => h)).fr h23 (fun e => by have := (m.vC.own _ e).2; omega)).fr h34.fr (by omega),
    h34.blk,
    ((m.boxV.fr h12.fr (fun h => h)).fr h23 (fun e => by have := (m.vC.own _ e).2; omega)).fr h34.fr (by omega),
    ((m.arrI.fr h12.fr (fun h => h)).fr h23 (fun e => by have := (m.vC.own _ e).2; omega)).fr h34.fr (by omega),
    ((m.arrL.fr h12.fr (fun h => h)).fr h23 (fun e => by have := (m.vC.own _ e).2; omega)).fr h34.fr (by omega),
    ((m.arrO.fr h12.fr (fun h => h)).fr h23 (fun e => by have := (m.vC.own _ e).2; omega)).fr h34.fr (by omega),
    (m.vC.push_other m.vS (by decide) h12 h23).fr h34.fr (fun g _ h2 h3 => by omega) (fun _ _ => rfl),
    vnew.fr h34.fr (fun g _ h2 h3 => by omega) (fun _ _ => rfl),
    (m.vC.push_other m.vA (by decide) h12 h23).fr h34.fr (fun g _ h2 h3 => by omega) (fun _ _ => rfl),
    (m.vC.push_other m.vE (by decide) h12 h23).fr h34.fr (fun g _ h2 h3 => by omega) (fun _ _ => rfl),
    m.nI,
    m.nL,
    m.nO⟩
end
end Go.Proofs.Qxb6600121a
