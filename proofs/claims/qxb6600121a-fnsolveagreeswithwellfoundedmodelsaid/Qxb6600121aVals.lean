/-
  THE OPERATIONS' LEMMAS.
-/
import Derived.Test.Qxb6600121aOps
namespace Go.Proofs.Qxb6600121a
open Go

/-! ### Memory, by blocks -/
def cel (h : Array Obj) (b o : Nat) : Option Value :=
  match h[b]? with
  | some (.cells c _ _) => c[o]?
  | _ => none
def Blk (h : Array Obj) (b : Nat) (te : TypeId) (cs : List Value) : Prop := h[b]? = some (.cells cs.toArray te (0, 0))
theorem Blk.cel {h : Array Obj} {b : Nat} {te : TypeId} {cs : List Value} (hb : Blk h b te cs) (o : Nat) : cel h b o = cs[o]? := by
  unfold Blk at hb
  simp [Qxb6600121a.cel, hb]
theorem Blk.lt {h : Array Obj} {b : Nat} {te : TypeId} {cs : List Value} (hb : Blk h b te cs) : b < h.size := (Array.getElem?_eq_some_iff.1 hb).1
theorem cell?_cel (w : World) (b o : Nat) : w.cell? ⟨b, o, none⟩ = cel w.heap b o := by
  simp only [World.cell?, cel]
  cases w.heap[b]? with
  | none => rfl
  | some x => cases x <;> simp
theorem cel_lt {h : Array Obj} {b o : Nat} {v : Value} (hc : cel h b o = some v) : b < h.size := by
  unfold cel at hc
  split at hc
  · rename_i heq; exact (Array.getElem?_eq_some_iff.1 heq).1
  · cases hc
theorem add_none (b o n : Nat) : (⟨b, o, none⟩ : Addr).add n = ⟨b, o + n, none⟩ := by
  unfold Addr.add
  split
  · subst_vars; rfl
  · rfl

/-! ### Types -/
def oneT (P : Program) (t : TypeId) : Bool :=
  match P.underlying t with
  | some (.struct _) => false
  | some (.array _ _) => false
  | some _ => true
  | none => false
def szT (P : Program) (t : TypeId) : Option Nat := (P.info? t).map (·.size)
def elT (P : Program) (t : TypeId) : Option TypeId :=
  match P.underlying t with
  | some (.slice e) => some e
  | _ => none
def fldOff (P : Program) (s : TypeId) (i : Nat) : Option Nat :=
  match P.underlying s with
  | some (.struct fs) => (fs[i]?).bind fun f => (P.info? f.type).bind fun ti => bif Nat.beq ti.size 0 then none else some f.offset
  | _ => none
theorem isAgg_one {P : Program} {t : TypeId} (h : oneT P t = true) (w : World) : (isAgg t).run P w = .ok false w := by
  unfold oneT at h
  cases hu : P.underlying t with
  | none => simp [hu] at h
  | some d =>
    have e := run_underlying (w := w) hu
    cases d <;> simp [hu] at h <;> simp [isAgg, e]
theorem sizeOf_run {P : Program} {t : TypeId} {n : Nat} (h : szT P t = some n) (w : World) : (sizeOf t).run P w = .ok n w := by
  unfold szT at h
  cases hi : P.info? t with
  | none => simp [hi] at h
  | some i => simp [hi] at h; subst h; simp [sizeOf, typeInfo, hi]
theorem und_el {P : Program} {t e : TypeId} (h : elT P t = some e) : P.underlying t = some (.slice e) := by
  unfold elT at h
  split at h
  · rename_i e' hu; cases h; exact hu
  · cases h

section
variable {P : Program} {E : Env} {h : Array Obj} {ty : TypeId}
theorem QV_move {x : Operand} {v : Value} (hx : evO E x = some v) : QV P E h (.move x) ty v :=
  fun _ _ _ hS _ => by simp [execOp, opr, hS.ev hx]
theorem QV_assign {x : Operand} {v : Value} (hx : evO E x = some v) : QV P E h (.assign x) ty v :=
  fun _ _ _ hS _ => by simp [execOp, opr, hS.ev hx]
theorem QV_pick {c x y : Operand} {b : Bool} {u v : Value} (hc : evO E c = some (.bool b)) (hx : evO E x = some u) (hy : evO E y = some v) : QV P E h (.pick c x y) ty (bif b then u else v) :=
  fun _ _ _ hS _ => by cases b <;> simp [execOp, opr, hS.ev hc, hS.ev hx, hS.ev hy, asBool]
theorem QV_pickT {c x y : Operand} {u : Value} (hc : evO E c = some (.bool true)) (hx : evO E x = some u) : QV P E h (.pick c x y) ty u :=
  fun _ _ _ hS _ => by simp [execOp, opr, hS.ev hc, hS.ev hx, asBool]
theorem QV_pickF {c x y : Operand} {u : Value} (hc : evO E c = some (.bool false)) (hy : evO E y = some u) : QV P E h (.pick c x y) ty u :=
  fun _ _ _ hS _ => by simp [execOp, opr, hS.ev hc, hS.ev hy, asBool]
theorem QV_nil {x : Operand} {a : Addr} (hx : evO E x = some (.pointer (some a))) : QV P E h (.nilCheck x) ty (.pointer (some a)) :=
  fun _ _ _ hS _ => by simp [execOp, opr, hS.ev hx]
theorem QV_load {t : TypeId} {x : Operand} {b o : Nat} {v : Value} (hx : evO E x = some (.pointer (some ⟨b, o, none⟩))) (h1 : oneT P t = true) (hv : cel h b o = some v) : QV P E h (.load t x) ty v :=
  fun _ _ w hS hw => by
    have hc : w.cell? ⟨b, o, none⟩ = some v := by rw [cell?_cel, hw]; exact hv
    simp [execOp, opr, hS.ev hx, Instr.loadAt, Instr.sureAddr, loadVar, isAgg_one h1, load, Sem.run, hc]
theorem QV_load3 {t : TypeId} {x : Operand} {b o : Nat} {v0 v1 v2 : Value} (hx : evO E x = some (.pointer (some ⟨b, o, none⟩))) {fs : Array Field} (h1 : P.underlying t = some (.struct fs)) (h3 : szT P t = some 3)
    (hv0 : cel h b o = some v0) (hv1 : cel h b (o + 1) = some v1) (hv2 : cel h b (o + 2) = some v2) : QV P E h (.load t x) ty (.agg #[v0, v1, v2]) :=
  fun _ _ w hS hw => by
    have e0 : w.cell? ⟨b, o, none⟩ = some v0 := by rw [cell?_cel, hw]; exact hv0
    have e1 : w.cell? ⟨b, o + 1, none⟩ = some v1 := by rw [cell?_cel, hw]; exact hv1
    have e2 : w.cell? ⟨b, o + 2, none⟩ = some v2 := by rw [cell?_cel, hw]; exact hv2
    have ha : (isAgg t).run P w = .ok true w := by simp [isAgg, run_underlying h1]
    simp [execOp, opr, hS.ev hx, Instr.loadAt, Instr.sureAddr, loadVar, ha, sizeOf_run h3, loadCells, loadCellsFrom, load, Sem.run, add_none, e0, e1, e2]
theorem QV_field {s : TypeId} {x : Operand} {i b o off : Nat} (hx : evO E x = some (.pointer (some ⟨b, o, none⟩))) (hf : fldOff P s i = some off) : QV P E h (.fieldAddr s x i) ty (.pointer (some ⟨b, o + off, none⟩)) :=
  fun _ _ w hS _ => by
    unfold fldOff at hf
    cases hu : P.underlying s with
    | none => simp [hu] at hf
    | some d =>
      cases d <;> simp [hu] at hf
      rename_i fs
      cases hfi : fs[i]? with
      | none => simp [hfi] at hf
      | some fl =>
        simp [hfi] at hf
        cases hti : P.info? fl.type with
        | none => simp [hti] at hf
        | some ti =>
          simp [hti] at hf
          cases hz : Nat.beq ti.size 0 with
          | true => simp [hz] at hf
          | false =>
            simp [hz] at hf
            have hne : ti.size ≠ 0 := fun e => by rw [e] at hz; cases hz
            have hsz : (sizeOf fl.type).run P w = .ok ti.size w := sizeOf_run (by simp [szT, hti]) w
            simp [execOp, opr, hS.ev hx, Instr.fieldAt, run_underlying hu, hfi, Instr.sureAddr, fieldPlace, hsz, hne, add_none, hf]
theorem QV_field0 {s : TypeId} {x : Operand} {i b o : Nat} (hx : evO E x = some (.pointer (some ⟨b, o, none⟩))) (hf : fldOff P s i = some 0) : QV P E h (.fieldAddr s x i) ty (.pointer (some ⟨b, o, none⟩)) :=
  QV_field (off := 0) hx hf
theorem QV_idx {t e : TypeId} {x y : Operand} {b o len cap sz k : Nat} {ki : IntKind} (hx : evO E x = some (.slice (some ⟨b, o, none⟩) len cap)) (hy : evO E y = some (.int ki (k : Nat))) (he : elT P t = some e) (hs : szT P e = some sz) (hk : k < len) :
    QV P E h (.indexAddr t x y) ty (.pointer (some ⟨b, o + k * sz, none⟩)) :=
  fun _ _ w hS _ => by
    have h0 : (0 : Int) ≤ (k : Int) := by omega
    have h1 : (k : Int) < (len : Int) := by omega
    simp [execOp, opr, hS.ev hx, hS.ev hy, Instr.indexAt, asIntOf, run_underlying (und_el he), hk, sizeOf_run hs, add_none]
theorem QV_idx1 {t e : TypeId} {x y : Operand} {b len cap k : Nat} {ki : IntKind} (hx : evO E x = some (.slice (some ⟨b, 0, none⟩) len cap)) (hy : evO E y = some (.int ki (k : Nat))) (he : elT P t = some e) (hs : szT P e = some 1) (hk : k < len) :
    QV P E h (.indexAddr t x y) ty (.pointer (some ⟨b, k, none⟩)) := by
  have := QV_idx (P := P) (h := h) (ty := ty) hx hy he hs hk
  simpa using this
theorem QV_idx3 {t e : TypeId} {x y : Operand} {b len cap k : Nat} {ki : IntKind} (hx : evO E x = some (.slice (some ⟨b, 0, none⟩) len cap)) (hy : evO E y = some (.int ki (k : Nat))) (he : elT P t = some e) (hs : szT P e = some 3) (hk : k < len) :
    QV P E h (.indexAddr t x y) ty (.pointer (some ⟨b, k * 3, none⟩)) := by
  have := QV_idx (P := P) (h := h) (ty := ty) hx hy he hs hk
  simpa using this
theorem QV_idxO {t e : TypeId} {x y : Operand} {b o len cap k : Nat} {ki : IntKind} (hx : evO E x = some (.slice (some ⟨b, o, none⟩) len cap)) (hy : evO E y = some (.int ki (k : Nat))) (he : elT P t = some e) (hs : szT P e = some 1) (hk : k < len) :
    QV P E h (.indexAddr t x y) ty (.pointer (some ⟨b, o + k, none⟩)) := by
  have := QV_idx (P := P) (h := h) (ty := ty) hx hy he hs hk
  simpa using this
theorem QV_idxI {t e : TypeId} {x y : Operand} {b len cap : Nat} {k : Int} {ki : IntKind} (hx : evO E x = some (.slice (some ⟨b, 0, none⟩) len cap)) (hy : evO E y = some (.int ki k)) (he : elT P t = some e) (hs : szT P e = some 1) (h0 : 0 ≤ k) (hk : k < len) :
    QV P E h (.indexAddr t x y) ty (.pointer (some ⟨b, k.toNat, none⟩)) := by
  obtain ⟨n, rfl⟩ := Int.eq_ofNat_of_zero_le h0
  have := QV_idx1 (P := P) (h := h) (ty := ty) hx hy he hs (by omega)
  simpa using this
theorem wrap_id {r : Int} (h1 : -9223372036854775808 ≤ r) (h2 : r ≤ 9223372036854775807) : IntKind.i64.wrap r = r := by
  simp only [IntKind.wrap, IntKind.bits, IntKind.signed]
  simp
  omega
theorem QV_add {x y : Operand} {t t' : TypeId} {a b r : Int} (hx : evO E x = some (.int .i64 a)) (hy : evO E y = some (.int .i64 b)) (hr : a + b = r) (h1 : -9223372036854775808 ≤ r) (h2 : r ≤ 9223372036854775807) :
    QV P E h (.binOp .add t x y t') ty (.int .i64 r) :=
  fun _ _ _ hS _ => by simp [execOp, opr, hS.ev hx, hS.ev hy, eqGuard, binOp, Op.intArith, hr, wrap_id h1 h2]
theorem QV_sub {x y : Operand} {t t' : TypeId} {a b r : Int} (hx : evO E x = some (.int .i64 a)) (hy : evO E y = some (.int .i64 b)) (hr : a - b = r) (h1 : -9223372036854775808 ≤ r) (h2 : r ≤ 9223372036854775807) :
    QV P E h (.binOp .sub t x y t') ty (.int .i64 r) :=
  fun _ _ _ hS _ => by simp [execOp, opr, hS.ev hx, hS.ev hy, eqGuard, binOp, Op.intArith, hr, wrap_id h1 h2]
theorem QV_mul {x y : Operand} {t t' : TypeId} {a b r : Int} (hx : evO E x = some (.int .i64 a)) (hy : evO E y = some (.int .i64 b)) (hr : a * b = r) (h1 : -9223372036854775808 ≤ r) (h2 : r ≤ 9223372036854775807) :
    QV P E h (.binOp .mul t x y t') ty (.int .i64 r) :=
  fun _ _ _ hS _ => by simp [execOp, opr, hS.ev hx, hS.ev hy, eqGuard, binOp, Op.intArith, hr, wrap_id h1 h2]
theorem QV_lss {x y : Operand} {t t' : TypeId} {a b : Int} {k : IntKind} (hx : evO E x = some (.int k a)) (hy : evO E y = some (.int k b)) : QV P E h (.binOp .lss t x y t') ty (.bool (decide (a < b))) :=
  fun _ _ _ hS _ => by simp [execOp, opr, hS.ev hx, hS.ev hy, eqGuard, binOp, Op.intCmp]
theorem QV_leq {x y : Operand} {t t' : TypeId} {a b : Int} {k : IntKind} (hx : evO E x = some (.int k a)) (hy : evO E y = some (.int k b)) : QV P E h (.binOp .leq t x y t') ty (.bool (decide (a ≤ b))) :=
  fun _ _ _ hS _ => by simp [execOp, opr, hS.ev hx, hS.ev hy, eqGuard, binOp, Op.intCmp]
theorem QV_gtr {x y : Operand} {t t' : TypeId} {a b : Int} {k : IntKind} (hx : evO E x = some (.int k a)) (hy : evO E y = some (.int k b)) : QV P E h (.binOp .gtr t x y t') ty (.bool (decide (b < a))) :=
  fun _ _ _ hS _ => by simp [execOp, opr, hS.ev hx, hS.ev hy, eqGuard, binOp, Op.intCmp]
theorem QV_geq {x y : Operand} {t t' : TypeId} {a b : Int} {k : IntKind} (hx : evO E x = some (.int k a)) (hy : evO E y = some (.int k b)) : QV P E h (.binOp .geq t x y t') ty (.bool (decide (b ≤ a))) :=
  fun _ _ _ hS _ => by simp [execOp, opr, hS.ev hx, hS.ev hy, eqGuard, binOp, Op.intCmp]
theorem QV_eql {x y : Operand} {t t' : TypeId} {a b : Int} {k : IntKind} (hx : evO E x = some (.int k a)) (hy : evO E y = some (.int k b)) : QV P E h (.binOp .eql t x y t') ty (.bool (decide (a = b))) :=
  fun _ _ _ hS _ => by
    have : (a == b) = decide (a = b) := by by_cases hab : a = b <;> simp [hab]
    simp [execOp, opr, hS.ev hx, hS.ev hy, eqGuard, binOp, Op.intCmp, this]
theorem QV_neq {x y : Operand} {t t' : TypeId} {a b : Int} {k : IntKind} (hx : evO E x = some (.int k a)) (hy : evO E y = some (.int k b)) : QV P E h (.binOp .neq t x y t') ty (.bool (decide (a ≠ b))) :=
  fun _ _ _ hS _ => by
    have : (a != b) = !decide (a = b) := by by_cases hab : a = b <;> simp [hab]
    simp [execOp, opr, hS.ev hx, hS.ev hy, eqGuard, binOp, Op.intCmp, this]
theorem QV_not {x : Operand} {t : TypeId} {b : Bool} (hx : evO E x = some (.bool b)) : QV P E h (.unOp .not t x) ty (.bool (!b)) :=
  fun _ _ _ hS _ => by simp [execOp, opr, hS.ev hx, Op.unary]
theorem QV_len {x : Operand} {t e : TypeId} {a : Option Addr} {n c : Nat} (hx : evO E x = some (.slice a n c)) (he : elT P t = some e) : QV P E h (.call { callee := .builtin .len, args := #[x], argTypes := #[t] }) ty (.int .i64 (n : Nat)) :=
  fun _ _ _ hS _ => by simp [execOp, opr, resolve, invoke, builtin, hS.ev hx, Builtin.len_, run_underlying (und_el he), goInt]
theorem QV_min {x y : Operand} {t t' : TypeId} {a b : Int} {k : IntKind} (hx : evO E x = some (.int k a)) (hy : evO E y = some (.int k b)) : QV P E h (.call { callee := .builtin .min, args := #[x, y], argTypes := #[t, t'] }) ty (.int k (if b < a then b else a)) :=
  fun _ _ _ hS _ => by simp [execOp, opr, resolve, invoke, builtin, hS.ev hx, hS.ev hy, Builtin.min_, Builtin.min2]
theorem QV_sliceTo {x y : Operand} {t e : TypeId} {a : Option Addr} {n c k : Nat} {ki : IntKind} (hx : evO E x = some (.slice a n c)) (hy : evO E y = some (.int ki (k : Nat))) (he : elT P t = some e) {sz : Nat} (hs : szT P e = some sz) (hk : k ≤ c) : QV P E h (.slice t x none (some y) none) ty (.slice a k c) :=
  fun _ _ w hS _ => by
    have h0 : (0 : Int) ≤ (k : Int) := by omega
    have h1 : (k : Int) ≤ (c : Int) := by omega
    have e2 : Option.map (fun b : Addr => b.add 0) a = a := by cases a <;> simp [Addr.add]
    simp [execOp, opr, hS.ev hx, hS.ev hy, Instr.sliceAt, run_underlying (und_el he), Instr.slice, Instr.sliceBounds, Instr.sliceBound, asIntOf, hk, sizeOf_run hs, e2]
theorem QV_slice2 {x y z : Operand} {t e : TypeId} {b o n c l k : Nat} {ki kj : IntKind} (hx : evO E x = some (.slice (some ⟨b, o, none⟩) n c)) (hz : evO E z = some (.int kj (l : Nat))) (hy : evO E y = some (.int ki (k : Nat))) (he : elT P t = some e) (hs : szT P e = some 1)
    (hl : l < k) (hk : k ≤ c) : QV P E h (.slice t x (some z) (some y) none) ty (.slice (some ⟨b, o + l, none⟩) (k - l) (c - l)) :=
  fun _ _ w hS _ => by
    have hle : l ≤ k := by omega
    have hne : ¬ c = l := by omega
    simp [execOp, opr, hS.ev hx, hS.ev hy, hS.ev hz, Instr.sliceAt, run_underlying (und_el he), Instr.slice, Instr.sliceBounds, Instr.sliceBound, asIntOf, hk, hle, hne, sizeOf_run hs, add_none]
theorem QV_extract {x : Operand} {vs : Array Value} {i : Nat} {v : Value} (hx : evO E x = some (.tuple vs)) (hv : vs[i]? = some v) : QV P E h (.extract x i) ty v :=
  fun _ _ _ hS _ => by simp [execOp, opr, hS.ev hx, Instr.extract, hv]
end
end Go.Proofs.Qxb6600121a
