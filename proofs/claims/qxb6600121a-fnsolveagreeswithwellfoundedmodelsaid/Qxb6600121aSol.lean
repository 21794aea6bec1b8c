/-
  THE SOLVER IN MEMORY.
-/
import Derived.Test.Qxb6600121aTabs
namespace Go.Proofs.Qxb6600121a
open Go

/-- Where the solver lies: its blocks are s .. s+9. -/
structure Lay where
  s : Nat
  bh : Value
  us : Value
  ex : Value
/-- What the solver holds that turns. -/
structure SS where
  val : List Int
  part : List Int
  opn : List Int
  source : List Int
  lost : List Nat
  looked : Int
  wait : List Int
  closed : List Bool
  need : List Int
  queue : List Nat
def solCells (L : Lay) (n m : Nat) (lv : Value) (lk : Int) (qv : Value) : List Value :=
  [.pointer (some ⟨L.s + 8, 0, none⟩), L.bh, L.us, L.ex, .slice (some ⟨L.s + 1, 0, none⟩) n n, .slice (some ⟨L.s + 2, 0, none⟩) n n, .slice (some ⟨L.s + 4, 0, none⟩) n n, .slice (some ⟨L.s + 3, 0, none⟩) n n, lv, .int .i64 lk,
    .slice (some ⟨L.s + 5, 0, none⟩) m m, .slice (some ⟨L.s + 6, 0, none⟩) m m, .slice (some ⟨L.s + 7, 0, none⟩) m m, qv]
/-- What never turns. -/
structure Stat (h : Array Obj) (L : Lay) (n : Nat) (D : List Rl) : Prop where
  rules : RulesAt h (fun b => b ≤ L.s) (.slice (some ⟨L.s, 0, none⟩) D.length D.length) (D.map Rl.rd)
  bh : TblAt h (fun b => b < L.s) L.bh n (idxH D n D.length)
  us : TblAt h (fun b => b < L.s) L.us n (idxU D n D.length)
  ex : TblAt h (fun b => b < L.s) L.ex n (idxE D n D.length)
  rset : Blk h (L.s + 8) 65 [.int .i64 (n : Int), .slice (some ⟨L.s, 0, none⟩) D.length D.length]
theorem Stat.fr {X : Nat → Prop} {w w' : World} {L : Lay} {n : Nat} {D : List Rl} (h : Stat w.heap L n D) (hf : Fr X w w') (hX : ∀ k, X k → L.s < k ∧ k ≠ L.s + 8) : Stat w'.heap L n D :=
  ⟨h.rules.fr hf (fun k hk hx => by have := hX k hx; omega), h.bh.fr hf (fun k hk hx => by have := hX k hx; omega), h.us.fr hf (fun k hk hx => by have := hX k hx; omega), h.ex.fr hf (fun k hk hx => by have := hX k hx; omega),
    h.rset.fr hf (fun hx => by have := hX _ hx; omega)⟩
structure SolC (h : Array Obj) (L : Lay) (n : Nat) (D : List Rl) (S : SS) (lv qv : Value) : Prop where
  stat : Stat h L n D
  sol : Blk h (L.s + 9) 61 (solCells L n D.length lv S.looked qv)
  bval : Blk h (L.s + 1) 45 (i8s S.val)
  bpart : Blk h (L.s + 2) 3 (ints S.part)
  bsource : Blk h (L.s + 3) 3 (ints S.source)
  bopn : Blk h (L.s + 4) 3 (ints S.opn)
  bwait : Blk h (L.s + 5) 3 (ints S.wait)
  bclosed : Blk h (L.s + 6) 4 (bools S.closed)
  bneed : Blk h (L.s + 7) 3 (ints S.need)
  nval : S.val.length = n
  npart : S.part.length = n
  nsource : S.source.length = n
  nopn : S.opn.length = n
  nwait : S.wait.length = D.length
  nclosed : S.closed.length = D.length
  nneed : S.need.length = D.length
section
variable {X : Nat → Prop} {w w' : World} {L : Lay} {n : Nat} {D : List Rl} {S : SS} {lv qv : Value}
theorem SolC.fr (h : SolC w.heap L n D S lv qv) (hf : Fr X w w') (hX : ∀ k, X k → L.s + 9 < k) : SolC w'.heap L n D S lv qv :=
  ⟨h.stat.fr hf (fun k hk => by have := hX k hk; omega), h.sol.fr hf (fun hx => by have := hX _ hx; omega), h.bval.fr hf (fun hx => by have := hX _ hx; omega), h.bpart.fr hf (fun hx => by have := hX _ hx; omega),
    h.bsource.fr hf (fun hx => by have := hX _ hx; omega), h.bopn.fr hf (fun hx => by have := hX _ hx; omega), h.bwait.fr hf (fun hx => by have := hX _ hx; omega), h.bclosed.fr hf (fun hx => by have := hX _ hx; omega),
    h.bneed.fr hf (fun hx => by have := hX _ hx; omega), h.nval, h.npart, h.nsource, h.nopn, h.nwait, h.nclosed, h.nneed⟩
theorem SolC.lt {h : Array Obj} (hs : SolC h L n D S lv qv) : L.s + 9 < h.size := hs.sol.lt
theorem SolC.c0 {h : Array Obj} (hs : SolC h L n D S lv qv) : cel h (L.s + 9) 0 = some (.pointer (some ⟨L.s + 8, 0, none⟩)) := by rw [hs.sol.cel]; rfl
theorem SolC.c1 {h : Array Obj} (hs : SolC h L n D S lv qv) : cel h (L.s + 9) 1 = some L.bh := by rw [hs.sol.cel]; rfl
theorem SolC.c2 {h : Array Obj} (hs : SolC h L n D S lv qv) : cel h (L.s + 9) 2 = some L.us := by rw [hs.sol.cel]; rfl
theorem SolC.c3 {h : Array Obj} (hs : SolC h L n D S lv qv) : cel h (L.s + 9) 3 = some L.ex := by rw [hs.sol.cel]; rfl
theorem SolC.c4 {h : Array Obj} (hs : SolC h L n D S lv qv) : cel h (L.s + 9) 4 = some (.slice (some ⟨L.s + 1, 0, none⟩) n n) := by rw [hs.sol.cel]; rfl
theorem SolC.c5 {h : Array Obj} (hs : SolC h L n D S lv qv) : cel h (L.s + 9) 5 = some (.slice (some ⟨L.s + 2, 0, none⟩) n n) := by rw [hs.sol.cel]; rfl
theorem SolC.c6 {h : Array Obj} (hs : SolC h L n D S lv qv) : cel h (L.s + 9) 6 = some (.slice (some ⟨L.s + 4, 0, none⟩) n n) := by rw [hs.sol.cel]; rfl
theorem SolC.c7 {h : Array Obj} (hs : SolC h L n D S lv qv) : cel h (L.s + 9) 7 = some (.slice (some ⟨L.s + 3, 0, none⟩) n n) := by rw [hs.sol.cel]; rfl
theorem SolC.c8 {h : Array Obj} (hs : SolC h L n D S lv qv) : cel h (L.s + 9) 8 = some lv := by rw [hs.sol.cel]; rfl
theorem SolC.c9 {h : Array Obj} (hs : SolC h L n D S lv qv) : cel h (L.s + 9) 9 = some (.int .i64 S.looked) := by rw [hs.sol.cel]; rfl
theorem SolC.c10 {h : Array Obj} (hs : SolC h L n D S lv qv) : cel h (L.s + 9) 10 = some (.slice (some ⟨L.s + 5, 0, none⟩) D.length D.length) := by rw [hs.sol.cel]; rfl
theorem SolC.c11 {h : Array Obj} (hs : SolC h L n D S lv qv) : cel h (L.s + 9) 11 = some (.slice (some ⟨L.s + 6, 0, none⟩) D.length D.length) := by rw [hs.sol.cel]; rfl
theorem SolC.c12 {h : Array Obj} (hs : SolC h L n D S lv qv) : cel h (L.s + 9) 12 = some (.slice (some ⟨L.s + 7, 0, none⟩) D.length D.length) := by rw [hs.sol.cel]; rfl
theorem SolC.c13 {h : Array Obj} (hs : SolC h L n D S lv qv) : cel h (L.s + 9) 13 = some qv := by rw [hs.sol.cel]; rfl
theorem Stat.r0 {h : Array Obj} (hs : Stat h L n D) : cel h (L.s + 8) 0 = some (.int .i64 (n : Int)) := by rw [hs.rset.cel]; rfl
theorem Stat.r1 {h : Array Obj} (hs : Stat h L n D) : cel h (L.s + 8) 1 = some (.slice (some ⟨L.s, 0, none⟩) D.length D.length) := by rw [hs.rset.cel]; rfl
/-- Rule r: its head; its body's two slices. -/
theorem Stat.rule {h : Array Obj} (hs : Stat h L n D) {r : Nat} (hr : r < D.length) : cel h L.s (r * 3) = some (.int .i64 (((D.getD r rl0).head : Nat) : Int)) ∧
    ∃ va vu, cel h L.s (r * 3 + 1) = some va ∧ cel h L.s (r * 3 + 2) = some vu ∧ IntsAt h (fun b => b ≤ L.s) va (casts (D.getD r rl0).all) ∧ IntsAt h (fun b => b ≤ L.s) vu (casts (D.getD r rl0).unl) := by
  obtain ⟨a, c, h1, h2, h3⟩ := hs.rules.nat
  obtain ⟨b, o, h4, h5, h6⟩ := h3 (by omega)
  subst h4
  cases h1
  have := h6 r hr
  simpa using this
theorem SolC.setVal (h : SolC w.heap L n D S lv qv) {k : Nat} {x : Int} (hu : Upd w w' (L.s + 1) 45 ((i8s S.val).set k (.int .i8 x))) : SolC w'.heap L n D { S with val := S.val.set k x } lv qv :=
  ⟨h.stat.fr hu.fr (by omega), h.sol.fr hu.fr (by omega), by have := hu.blk; rw [i8s_set] at this; exact this, h.bpart.fr hu.fr (by omega), h.bsource.fr hu.fr (by omega), h.bopn.fr hu.fr (by omega), h.bwait.fr hu.fr (by omega),
    h.bclosed.fr hu.fr (by omega), h.bneed.fr hu.fr (by omega), by simpa using h.nval, h.npart, h.nsource, h.nopn, h.nwait, h.nclosed, h.nneed⟩
theorem SolC.setPart (h : SolC w.heap L n D S lv qv) {k : Nat} {x : Int} (hu : Upd w w' (L.s + 2) 3 ((ints S.part).set k (.int .i64 x))) : SolC w'.heap L n D { S with part := S.part.set k x } lv qv :=
  ⟨h.stat.fr hu.fr (by omega), h.sol.fr hu.fr (by omega), h.bval.fr hu.fr (by omega), by have := hu.blk; rw [ints_set] at this; exact this, h.bsource.fr hu.fr (by omega), h.bopn.fr hu.fr (by omega), h.bwait.fr hu.fr (by omega),
    h.bclosed.fr hu.fr (by omega), h.bneed.fr hu.fr (by omega), h.nval, by simpa using h.npart, h.nsource, h.nopn, h.nwait, h.nclosed, h.nneed⟩
theorem SolC.setSource (h : SolC w.heap L n D S lv qv) {k : Nat} {x : Int} (hu : Upd w w' (L.s + 3) 3 ((ints S.source).set k (.int .i64 x))) : SolC w'.heap L n D { S with source := S.source.set k x } lv qv :=
  ⟨h.stat.fr hu.fr (by omega), h.sol.fr hu.fr (by omega), h.bval.fr hu.fr (by omega), h.bpart.fr hu.fr (by omega), by have := hu.blk; rw [ints_set] at this; exact this, h.bopn.fr hu.fr (by omega), h.bwait.fr hu.fr (by omega),
    h.bclosed.fr hu.fr (by omega), h.bneed.fr hu.fr (by omega), h.nval, h.npart, by simpa using h.nsource, h.nopn, h.nwait, h.nclosed, h.nneed⟩
theorem SolC.setOpn (h : SolC w.heap L n D S lv qv) {k : Nat} {x : Int} (hu : Upd w w' (L.s + 4) 3 ((ints S.opn).set k (.int .i64 x))) : SolC w'.heap L n D { S with opn := S.opn.set k x } lv qv :=
  ⟨h.stat.fr hu.fr (by omega), h.sol.fr hu.fr (by omega), h.bval.fr hu.fr (by omega), h.bpart.fr hu.fr (by omega), h.bsource.fr hu.fr (by omega), by have := hu.blk; rw [ints_set] at this; exact this, h.bwait.fr hu.fr (by omega),
    h.bclosed.fr hu.fr (by omega), h.bneed.fr hu.fr (by omega), h.nval, h.npart, h.nsource, by simpa using h.nopn, h.nwait, h.nclosed, h.nneed⟩
theorem SolC.setWait (h : SolC w.heap L n D S lv qv) {k : Nat} {x : Int} (hu : Upd w w' (L.s + 5) 3 ((ints S.wait).set k (.int .i64 x))) : SolC w'.heap L n D { S with wait := S.wait.set k x } lv qv :=
  ⟨h.stat.fr hu.fr (by omega), h.sol.fr hu.fr (by omega), h.bval.fr hu.fr (by omega), h.bpart.fr hu.fr (by omega), h.bsource.fr hu.fr (by omega), h.bopn.fr hu.fr (by omega), by have := hu.blk; rw [ints_set] at this; exact this,
    h.bclosed.fr hu.fr (by omega), h.bneed.fr hu.fr (by omega), h.nval, h.npart, h.nsource, h.nopn, by simpa using h.nwait, h.nclosed, h.nneed⟩
theorem SolC.setClosed (h : SolC w.heap L n D S lv qv) {k : Nat} {x : Bool} (hu : Upd w w' (L.s + 6) 4 ((bools S.closed).set k (.bool x))) : SolC w'.heap L n D { S with closed := S.closed.set k x } lv qv :=
  ⟨h.stat.fr hu.fr (by omega), h.sol.fr hu.fr (by omega), h.bval.fr hu.fr (by omega), h.bpart.fr hu.fr (by omega), h.bsource.fr hu.fr (by omega), h.bopn.fr hu.fr (by omega), h.bwait.fr hu.fr (by omega),
    by have := hu.blk; rw [bools_set] at this; exact this, h.bneed.fr hu.fr (by omega), h.nval, h.npart, h.nsource, h.nopn, h.nwait, by simpa using h.nclosed, h.nneed⟩
theorem SolC.setNeed (h : SolC w.heap L n D S lv qv) {k : Nat} {x : Int} (hu : Upd w w' (L.s + 7) 3 ((ints S.need).set k (.int .i64 x))) : SolC w'.heap L n D { S with need := S.need.set k x } lv qv :=
  ⟨h.stat.fr hu.fr (by omega), h.sol.fr hu.fr (by omega), h.bval.fr hu.fr (by omega), h.bpart.fr hu.fr (by omega), h.bsource.fr hu.fr (by omega), h.bopn.fr hu.fr (by omega), h.bwait.fr hu.fr (by omega),
    h.bclosed.fr hu.fr (by omega), by have := hu.blk; rw [ints_set] at this; exact this, h.nval, h.npart, h.nsource, h.nopn, h.nwait, h.nclosed, by simpa using h.nneed⟩
theorem SolC.setLost (h : SolC w.heap L n D S lv qv) {lv' : Value} {xs : List Nat} (hu : Upd w w' (L.s + 9) 61 ((solCells L n D.length lv S.looked qv).set 8 lv')) : SolC w'.heap L n D { S with lost := xs } lv' qv :=
  ⟨h.stat.fr hu.fr (by omega), hu.blk, h.bval.fr hu.fr (by omega), h.bpart.fr hu.fr (by omega), h.bsource.fr hu.fr (by omega), h.bopn.fr hu.fr (by omega), h.bwait.fr hu.fr (by omega),
    h.bclosed.fr hu.fr (by omega), h.bneed.fr hu.fr (by omega), h.nval, h.npart, h.nsource, h.nopn, h.nwait, h.nclosed, h.nneed⟩
theorem SolC.setQueue (h : SolC w.heap L n D S lv qv) {qv' : Value} {xs : List Nat} (hu : Upd w w' (L.s + 9) 61 ((solCells L n D.length lv S.looked qv).set 13 qv')) : SolC w'.heap L n D { S with queue := xs } lv qv' :=
  ⟨h.stat.fr hu.fr (by omega), hu.blk, h.bval.fr hu.fr (by omega), h.bpart.fr hu.fr (by omega), h.bsource.fr hu.fr (by omega), h.bopn.fr hu.fr (by omega), h.bwait.fr hu.fr (by omega),
    h.bclosed.fr hu.fr (by omega), h.bneed.fr hu.fr (by omega), h.nval, h.npart, h.nsource, h.nopn, h.nwait, h.nclosed, h.nneed⟩
theorem SolC.setLooked (h : SolC w.heap L n D S lv qv) {x : Int} (hu : Upd w w' (L.s + 9) 61 ((solCells L n D.length lv S.looked qv).set 9 (.int .i64 x))) : SolC w'.heap L n D { S with looked := x } lv qv :=
  ⟨h.stat.fr hu.fr (by omega), hu.blk, h.bval.fr hu.fr (by omega), h.bpart.fr hu.fr (by omega), h.bsource.fr hu.fr (by omega), h.bopn.fr hu.fr (by omega), h.bwait.fr hu.fr (by omega),
    h.bclosed.fr hu.fr (by omega), h.bneed.fr hu.fr (by omega), h.nval, h.npart, h.nsource, h.nopn, h.nwait, h.nclosed, h.nneed⟩
end
/-- A list of numbers in a row of its own, from lo on. -/
def OwnR (h : Array Obj) (lo : Nat) (v : Value) (xs : List Nat) : Prop := Row h 3 1 v xs.length (nats xs) ∧ ∀ g, v.ownBlock = some g → lo ≤ g
/-- A solver that has settled nothing. -/
def ss0 (n m : Nat) : SS := ⟨List.replicate n 1, List.replicate n (-1), List.replicate n 0, List.replicate n (-1), [], 0, List.replicate m 0, List.replicate m false, List.replicate m 0, []⟩
theorem fill_step {α : Type} (n k : Nat) (x y : α) (h : k < n) : (List.replicate k x ++ List.replicate (n - k) y).set k x = List.replicate (k + 1) x ++ List.replicate (n - (k + 1)) y := by
  apply List.ext_getElem
  · simp; omega
  · intro j h1 h2
    simp at h1 h2
    rw [List.getElem_set]
    split
    · subst_vars
      simp
    · rename_i hne
      simp only [List.getElem_append, List.length_replicate, List.getElem_replicate]
      split <;> split <;> first | rfl | omega
/-- Triples of cells. -/
def Trip (cs : List Value) (Q : Nat → Value → Value → Value → Prop) (k : Nat) : Prop := ∀ i, i < k → ∃ v0 v1 v2, cs[i * 3]? = some v0 ∧ cs[i * 3 + 1]? = some v1 ∧ cs[i * 3 + 2]? = some v2 ∧ Q i v0 v1 v2
theorem Trip.set {cs : List Value} {Q : Nat → Value → Value → Value → Prop} {k : Nat} (h : Trip cs Q k) (hlen : k * 3 + 2 < cs.length) {v0 v1 v2 : Value} (hq : Q k v0 v1 v2) :
    Trip (((cs.set (k * 3) v0).set (k * 3 + 1) v1).set (k * 3 + 2) v2) Q (k + 1) := by
  have ne : ∀ (cs : List Value) (i j : Nat) (v : Value), i ≠ j → (cs.set i v)[j]? = cs[j]? := fun cs i j v h => List.getElem?_set_ne h
  refine all_succ ?_ ?_
  · intro i hi
    obtain ⟨u0, u1, u2, h0, h1, h2, h3⟩ := h i hi
    refine ⟨u0, u1, u2, ?_, ?_, ?_, h3⟩
    · rw [ne _ _ _ _ (by omega), ne _ _ _ _ (by omega), ne _ _ _ _ (by omega)]; exact h0
    · rw [ne _ _ _ _ (by omega), ne _ _ _ _ (by omega), ne _ _ _ _ (by omega)]; exact h1
    · rw [ne _ _ _ _ (by omega), ne _ _ _ _ (by omega), ne _ _ _ _ (by omega)]; exact h2
  · refine ⟨v0, v1, v2, ?_, ?_, ?_, hq⟩
    · rw [ne _ _ _ _ (by omega), ne _ _ _ _ (by omega), List.getElem?_set_self (by omega)]
    · rw [ne _ _ _ _ (by omega), List.getElem?_set_self (by simp; omega)]
    · rw [List.getElem?_set_self (by simp; omega)]
theorem Trip.mono {cs : List Value} {Q Q' : Nat → Value → Value → Value → Prop} {k : Nat} (h : Trip cs Q k) (hq : ∀ i v0 v1 v2, i < k → Q i v0 v1 v2 → Q' i v0 v1 v2) : Trip cs Q' k := by
  intro i hi
  obtain ⟨u0, u1, u2, h0, h1, h2, h3⟩ := h i hi
  exact ⟨u0, u1, u2, h0, h1, h2, hq i _ _ _ hi h3⟩
end Go.Proofs.Qxb6600121a
