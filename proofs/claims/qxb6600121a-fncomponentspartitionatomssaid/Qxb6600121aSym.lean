/-
  A SMALL CALCULUS FOR WALKS: the frame is an association list ('Env'), the world is known up to its draws ('Sim'), code is named by its path ('C f p').
-/
import Derived.Below
import Derived.StillTail
import Derived.OrdersHeld
import Derived.Deep.Quiet
import Derived.KernelRfl
import Derived.Tactics
namespace Go.Proofs.Qxb6600121a
open Go

/-! ### The frame -/
abbrev Env := List (Nat × Value)
def lk : Env → Nat → Option Value
  | [], _ => none
  | (i, v) :: E, j => bif Nat.beq i j then some v else lk E j
theorem lk_cons_eq (i : Nat) (v : Value) (E : Env) : lk ((i, v) :: E) i = some v := by simp [lk]
theorem lk_cons_ne {i j : Nat} (v : Value) (E : Env) (h : i ≠ j) : lk ((i, v) :: E) j = lk E j := by
  have : Nat.beq i j = false := by
    cases hb : Nat.beq i j with
    | false => rfl
    | true => exact absurd (Nat.eq_of_beq_eq_true hb) h
  simp [lk, this]
structure Sat (N : Nat) (a : Act) (E : Env) : Prop where
  size : a.tmps.size = N
  defers : a.defers = []
  val : ∀ i v, lk E i = some v → a.tmps.getD i undef = v
def SubE : Env → Env → Prop
  | [], _ => True
  | (i, v) :: E', E => lk E i = some v ∧ SubE E' E
theorem SubE.get {E : Env} : ∀ {E' : Env}, SubE E' E → ∀ i v, lk E' i = some v → lk E i = some v
  | [], _, i, v, h => by simp [lk] at h
  | (j, u) :: E', hs, i, v, h => by
    by_cases hj : j = i
    · subst hj
      rw [lk_cons_eq] at h
      cases h
      exact hs.1
    · rw [lk_cons_ne _ _ hj] at h
      exact SubE.get hs.2 i v h
theorem Sat.sub {N : Nat} {a : Act} {E E' : Env} (h : Sat N a E) (hs : SubE E' E) : Sat N a E' :=
  ⟨h.size, h.defers, fun i v hv => h.val i v (hs.get i v hv)⟩
theorem Sat.put {N : Nat} {a : Act} {E : Env} (h : Sat N a E) {d : Nat} (hd : d < N) (v : Value) : Sat N (a.put (some d) v) ((d, v) :: E) := by
  refine ⟨by simp [Act.put, h.size], h.defers, fun i u hu => ?_⟩
  by_cases hi : d = i
  · subst hi
    rw [lk_cons_eq] at hu
    cases hu
    simp [Act.put, h.size, hd]
  · rw [lk_cons_ne _ _ hi] at hu
    have := h.val i u hu
    simpa [Act.put, Array.getElem?_setIfInBounds_ne hi] using this
theorem Sat.putNone {N : Nat} {a : Act} {E : Env} (h : Sat N a E) (v : Value) : Sat N (a.put none v) E := h
def evO (E : Env) : Operand → Option Value
  | .tmp i => lk E i
  | .const v => some v
  | .global _ => none
  | .func f => some (.func (.func f) #[] #[])
theorem Sat.ev {N : Nat} {a : Act} {E : Env} (h : Sat N a E) {x : Operand} {v : Value} (hx : evO E x = some v) : a.eval x = v := by
  cases x with
  | tmp i => exact h.val i v hx
  | const u => simpa [evO, Act.eval] using hx
  | global g => simp [evO] at hx
  | func f => simpa [evO, Act.eval] using hx

/-! ### The world, up to draws -/
structure Sim (w w' : World) : Prop where
  heap : w'.heap = w.heap
  os : w'.os = w.os
  tape : w'.tape = w.tape
  output : w'.output = w.output
theorem Sim.refl (w : World) : Sim w w := ⟨rfl, rfl, rfl, rfl⟩
theorem Sim.trans {a b c : World} (h : Sim a b) (k : Sim b c) : Sim a c :=
  ⟨k.heap.trans h.heap, k.os.trans h.os, k.tape.trans h.tape, k.output.trans h.output⟩
theorem Sim.draw (w : World) : Sim w { w with drawn := w.drawn + 1 } := ⟨rfl, rfl, rfl, rfl⟩
/-- 'w'' is 'w' with new blocks, and with whatever writes to the old blocks of X. -/
structure Fr (X : Nat → Prop) (w w' : World) : Prop where
  os : w'.os = w.os
  tape : w'.tape = w.tape
  output : w'.output = w.output
  size : w.heap.size ≤ w'.heap.size
  block : ∀ k, k < w.heap.size → ¬ X k → w'.heap[k]? = w.heap[k]?
theorem Fr.refl (X : Nat → Prop) (w : World) : Fr X w w := ⟨rfl, rfl, rfl, Nat.le_refl _, fun _ _ _ => rfl⟩
theorem Fr.trans {X : Nat → Prop} {a b c : World} (h : Fr X a b) (k : Fr X b c) : Fr X a c :=
  ⟨k.os.trans h.os, k.tape.trans h.tape, k.output.trans h.output, Nat.le_trans h.size k.size,
    fun i hi hx => (k.block i (Nat.lt_of_lt_of_le hi h.size) hx).trans (h.block i hi hx)⟩
theorem Fr.mono {X Y : Nat → Prop} {a b : World} (h : Fr X a b) (hxy : ∀ k, k < a.heap.size → X k → Y k) : Fr Y a b :=
  ⟨h.os, h.tape, h.output, h.size, fun k hk hy => h.block k hk (fun hx => hy (hxy k hk hx))⟩
theorem Fr.sim {X : Nat → Prop} {a b : World} (h : Sim a b) : Fr X a b :=
  ⟨h.os, h.tape, h.output, by rw [h.heap]; exact Nat.le_refl _, fun k _ _ => by rw [h.heap]⟩
theorem Fr.simL {X : Nat → Prop} {a b c : World} (h : Sim a b) (k : Fr X b c) : Fr X a c := (Fr.sim h).trans k
theorem Fr.below {B : Nat} {a b : World} (h : Fr (fun k => B ≤ k) a b) (hB : B ≤ a.heap.size) : RowKit.Below B a b :=
  ⟨h.os, h.tape, h.output, h.size, fun k hk => h.block k (by omega) (by omega)⟩

/-! ### Code by its path -/
def kid : Code → Nat → Code
  | .seq a b, n => bif Nat.beq n 0 then a else b
  | .cond _ a b, n => bif Nat.beq n 0 then a else b
  | .block _ c, _ => c
  | .loop c, _ => c
  | .scope c, _ => c
  | c, _ => c
def C (f : Func) : List Nat → Code
  | [] => f.body.getD .skip
  | i :: p => kid (C f p) i
def tag : Code → Nat
  | .skip => 0
  | .region _ _ d => bif d then 2 else 1
  | .seq _ _ => 3
  | .cond _ _ _ => 4
  | .block _ _ => 5
  | .loop _ => 6
  | .exit _ => 7
  | .ret => 8
  | _ => 10
def condOp : Code → Option Operand
  | .cond x _ _ => some x
  | _ => none
def blkId : Code → Option Nat
  | .block i _ => some i
  | _ => none
def exitId : Code → Option Nat
  | .exit i => some i
  | _ => none
structure SOp where
  dst : Option Nat
  op : Op
  type : TypeId
  guard : Option (Nat × Bool)
def sop (o : Oper) : SOp := ⟨o.dst, o.op, o.type, o.guard⟩
def deS (s : SOp) : Oper := ⟨s.dst, s.op, s.type, "", #[], s.guard⟩
def sopsOf : Code → List SOp
  | .region _ ops _ => ops.toList.map sop
  | _ => []
def opr (op : Op) (ty : TypeId) : Oper := ⟨none, op, ty, "", #[], none⟩

/-! ### Continuations -/
structure Ks where
  nrm : Env → World → Prop
  ret : Env → World → Prop
  brk : List (Nat × (Env → World → Prop))
def lkB : List (Nat × (Env → World → Prop)) → Nat → Env → World → Prop
  | [], _ => fun _ _ => False
  | (i, q) :: l, j => bif Nat.beq i j then q else lkB l j
def Ks.q (N : Nat) (k : Ks) : Exit → Act → World → Prop
  | .normal, a, w' => ∃ E w, Sat N a E ∧ Sim w w' ∧ k.nrm E w
  | .ret, a, w' => ∃ E w, Sat N a E ∧ Sim w w' ∧ k.ret E w
  | .exit id, a, w' => ∃ E w, Sat N a E ∧ Sim w w' ∧ lkB k.brk id E w
  | _, _, _ => False
def T (P : Program) (N : Nat) (c : Code) (E : Env) (w : World) (k : Ks) : Prop :=
  ∀ a w', Sat N a E → Sim w w' → c.wp P (k.q N) a w'
section
variable {P : Program} {N : Nat} {E : Env} {w : World} {k : Ks} {f : Func} {p : List Nat}
theorem T.env {c : Code} {E' : Env} (h : T P N c E' w k) (hs : SubE E' E) : T P N c E w k := fun a w' hS hw => h a w' (hS.sub hs) hw
theorem T_seq {x y : Code} (h : T P N x E w { k with nrm := fun E' w' => T P N y E' w' k }) : T P N (.seq x y) E w k := by
  intro a w' hS hw
  refine wp_seq (wp_mono (h a w' hS hw) ?_)
  intro e a1 w1 hq
  cases e with
  | normal => obtain ⟨E1, w2, h1, h2, h3⟩ := hq; exact h3 a1 w1 h1 h2
  | ret => exact hq
  | exit id => exact hq
  | goto l => exact hq
  | panic c => exact hq
  | outgrown => exact hq
theorem T_cond {x y : Code} {c : Operand} {b : Bool} (hc : evO E c = some (.bool b)) (h1 : b = true → T P N x E w k) (h2 : b = false → T P N y E w k) : T P N (.cond c x y) E w k :=
  fun a w' hS hw => wp_cond_split (hS.ev hc) (fun hb => h1 hb a w' hS hw) (fun hb => h2 hb a w' hS hw)
theorem T_block {id : Nat} {c : Code} (h : T P N c E w { k with brk := (id, k.nrm) :: k.brk }) : T P N (.block id c) E w k := by
  intro a w' hS hw
  refine wp_block (wp_mono (h a w' hS hw) ?_)
  intro e a1 w1 hq
  cases e with
  | normal => exact hq
  | ret => exact hq
  | exit id' =>
    obtain ⟨E1, w2, h1, h2, h3⟩ := hq
    by_cases hid : id' = id
    · subst hid
      simp only [Exit.inBlock, if_true]
      exact ⟨E1, w2, h1, h2, by simpa [lkB] using h3⟩
    · simp only [Exit.inBlock, if_neg hid]
      have hne : Nat.beq id id' = false := by
        cases hb : Nat.beq id id' with
        | false => rfl
        | true => exact absurd (Nat.eq_of_beq_eq_true hb).symm hid
      exact ⟨E1, w2, h1, h2, by simpa [lkB, hne] using h3⟩
  | goto l => exact hq
  | panic c => exact hq
  | outgrown => exact hq
theorem T_exit {id : Nat} (h : lkB k.brk id E w) : T P N (.exit id) E w k :=
  fun _ _ hS hw => wp_exit ⟨E, w, hS, hw, h⟩
theorem T_ret (h : k.ret E w) : T P N .ret E w k := fun _ _ hS hw => wp_ret ⟨E, w, hS, hw, h⟩
theorem T_skip (h : k.nrm E w) : T P N .skip E w k := fun _ _ hS hw => wp_skip ⟨E, w, hS, hw, h⟩
theorem T_loop {ι : Type} {c : Code} (Jv : ι → World → Prop) (En : ι → Env) (μ : ι → Nat) (i0 : ι) (h0 : Jv i0 w) (hE : SubE (En i0) E)
    (round : ∀ i w1, Jv i w1 → T P N c (En i) w1 { k with nrm := fun E' w' => ∃ i', Jv i' w' ∧ SubE (En i') E' ∧ μ i' < μ i }) : T P N (.loop c) E w k := by
  intro a w' hS hw
  -- the measure of a state: the least measure of an index that fits it
  have hI : ∃ i w1, Jv i w1 ∧ Sim w1 w' ∧ Sat N a (En i) := ⟨i0, w, h0, hw, hS.sub hE⟩
  have key : ∀ n, ∀ (a : Act) (w' : World), (∃ i w1, Jv i w1 ∧ Sim w1 w' ∧ Sat N a (En i) ∧ μ i < n) →
      ∀ (b : Frame) (kk : List Item) (cs : List Frame), ∃ e a' w'', k.q N e a' w'' ∧ Arrives P (lone (b.at a (.code c :: .inLoop c :: kk)) cs w') b kk cs e a' w'' := by
    intro n
    induction n with
    | zero => rintro a w' ⟨i, w1, _, _, _, hlt⟩; omega
    | succ n ih =>
      rintro a w' ⟨i, w1, hi, hsim, hsat, hlt⟩ b kk cs
      obtain ⟨e, a1, w2, hq, harr⟩ := round i w1 hi a w' hsat hsim b (.inLoop c :: kk) cs
      cases e with
      | normal =>
        obtain ⟨E1, w3, h1, h2, i', h3, h4, h5⟩ := hq
        obtain ⟨e2, a2, w4, hq2, harr2⟩ := ih a1 w2 ⟨i', w3, h3, h2, h1.sub h4, by omega⟩ b kk cs
        exact ⟨e2, a2, w4, hq2, .of_steps (Steps.trans harr (.one step_inLoop)) harr2⟩
      | exit id => exact ⟨.exit id, a1, w2, hq, .pass (x := .inLoop c) rfl (fun _ _ => .inl (by simp)) harr⟩
      | goto l => exact ⟨.goto l, a1, w2, hq, .pass (x := .inLoop c) rfl (fun _ _ => .inl (by simp)) harr⟩
      | ret => exact ⟨.ret, a1, w2, hq, .pass (x := .inLoop c) rfl (fun _ _ => .inl (by simp)) harr⟩
      | panic ch => exact ⟨.panic ch, a1, w2, hq, .pass (x := .inLoop c) rfl (fun _ _ => .inl (by simp)) harr⟩
      | outgrown => exact ⟨.outgrown, a1, w2, hq, .pass (x := .inLoop c) rfl (fun _ _ => .inl (by simp)) harr⟩
  intro b kk cs
  obtain ⟨i, w1, h1, h2, h3⟩ := hI
  obtain ⟨e, a', w'', hq, harr⟩ := key (μ i + 1) a w' ⟨i, w1, h1, h2, h3, by omega⟩ b kk cs
  exact ⟨e, a', w'', hq, .of_steps (.one step_loop) harr⟩

/-! ### The same, by paths -/
theorem tag_seq {c : Code} (h : tag c = 3) : c = .seq (kid c 0) (kid c 1) := by
  cases c <;> simp [tag] at h
  · rename_i d; cases d <;> simp at h
  · rfl
theorem tag_loop {c : Code} (h : tag c = 6) : c = .loop (kid c 0) := by
  cases c <;> simp [tag] at h
  · rename_i d; cases d <;> simp at h
  · rfl
theorem tag_ret {c : Code} (h : tag c = 8) : c = .ret := by
  cases c <;> simp [tag] at h
  · rename_i d; cases d <;> simp at h
  · rfl
theorem tag_skip {c : Code} (h : tag c = 0) : c = .skip := by
  cases c <;> simp [tag] at h
  · rfl
  · rename_i d; cases d <;> simp at h
theorem W_seq (ht : tag (C f p) = 3) (h : T P N (C f (0 :: p)) E w { k with nrm := fun E' w' => T P N (C f (1 :: p)) E' w' k }) : T P N (C f p) E w k := by
  rw [tag_seq ht]; exact T_seq h
theorem W_cond {c : Operand} {b : Bool} (ht : condOp (C f p) = some c) (hc : evO E c = some (.bool b))
    (h1 : b = true → T P N (C f (0 :: p)) E w k) (h2 : b = false → T P N (C f (1 :: p)) E w k) : T P N (C f p) E w k := by
  have h1' : b = true → T P N (kid (C f p) 0) E w k := h1
  have h2' : b = false → T P N (kid (C f p) 1) E w k := h2
  cases hcc : C f p <;> rw [hcc] at ht h1' h2' <;> simp [condOp] at ht
  subst ht
  exact T_cond hc h1' h2'
theorem W_block (id : Nat) (ht : blkId (C f p) = some id) (h : T P N (C f (0 :: p)) E w { k with brk := (id, k.nrm) :: k.brk }) : T P N (C f p) E w k := by
  have h' : T P N (kid (C f p) 0) E w { k with brk := (id, k.nrm) :: k.brk } := h
  cases hcc : C f p <;> rw [hcc] at ht h' <;> simp [blkId] at ht
  subst ht
  exact T_block h'
theorem W_exit (id : Nat) (ht : exitId (C f p) = some id) (h : lkB k.brk id E w) : T P N (C f p) E w k := by
  cases hcc : C f p <;> rw [hcc] at ht <;> simp [exitId] at ht
  subst ht
  exact T_exit h
theorem W_ret (ht : tag (C f p) = 8) (h : k.ret E w) : T P N (C f p) E w k := by rw [tag_ret ht]; exact T_ret h
theorem W_skip (ht : tag (C f p) = 0) (h : k.nrm E w) : T P N (C f p) E w k := by rw [tag_skip ht]; exact T_skip h
theorem W_loop {ι : Type} (Jv : ι → World → Prop) (En : ι → Env) (μ : ι → Nat) (i0 : ι) (ht : tag (C f p) = 6) (h0 : Jv i0 w) (hE : SubE (En i0) E)
    (round : ∀ i w1, Jv i w1 → T P N (C f (0 :: p)) (En i) w1 { k with nrm := fun E' w' => ∃ i', Jv i' w' ∧ SubE (En i') E' ∧ μ i' < μ i }) : T P N (C f p) E w k := by
  rw [tag_loop ht]; exact T_loop Jv En μ i0 h0 hE round

/-! ### A function -/
/-- The call returns, from every world alike. -/
def CallsS (P : Program) (g : FuncId) (args : Array Value) (w : World) (R : Value → World → Prop) : Prop :=
  ∀ w', Sim w w' → Calls P g args w' (fun e w'' => ∃ v, e = .returned v ∧ ∃ w2, Sim w2 w'' ∧ R v w2)
theorem CallsS.mono {g : FuncId} {args : Array Value} {R R' : Value → World → Prop} (h : CallsS P g args w R) (hr : ∀ v w', R v w' → R' v w') : CallsS P g args w R' :=
  fun w' hw => (h w' hw).mono fun _ _ ⟨v, he, w2, hs, hR⟩ => ⟨v, he, w2, hs, hr _ _ hR⟩
def argsEnv : Nat → List Value → Env
  | _, [] => []
  | i, v :: vs => (i, v) :: argsEnv (i + 1) vs
theorem lk_argsEnv : ∀ (vs : List Value) (i j : Nat) (v : Value), lk (argsEnv i vs) j = some v → i ≤ j ∧ vs[j - i]? = some v
  | [], i, j, v, h => by simp [argsEnv, lk] at h
  | u :: vs, i, j, v, h => by
    by_cases hij : i = j
    · subst hij
      rw [argsEnv, lk_cons_eq] at h
      cases h
      exact ⟨Nat.le_refl _, by simp⟩
    · rw [argsEnv, lk_cons_ne _ _ hij] at h
      obtain ⟨h1, h2⟩ := lk_argsEnv vs (i + 1) j v h
      refine ⟨by omega, ?_⟩
      rw [show j - i = (j - (i + 1)) + 1 by omega]
      simpa using h2
def resE : List Nat → Env → Option Value
  | [], _ => some (.tuple #[])
  | [t], E => lk E t
  | [t, u], E => match lk E t, lk E u with
    | some a, some b => some (.tuple #[a, b])
    | _, _ => none
  | [t, u, v], E => match lk E t, lk E u, lk E v with
    | some a, some b, some c => some (.tuple #[a, b, c])
    | _, _, _ => none
  | _, _ => none
theorem results_resE {fn : Func} {rs : List Nat} (hr : fn.results = (rs.map ResultVar.tmp).toArray) {a : Act} (hS : Sat N a E) {v : Value} (hv : resE rs E = some v) (P : Program) (w : World) :
    (results fn a.tmps).run P w = .ok v w := by
  match rs, hr, hv with
  | [], hr, hv => simp [resE] at hv; subst hv; simp [results, hr]
  | [t], hr, hv =>
    have := hS.val t v hv
    simp [results, hr]
    simpa using this
  | [t, u], hr, hv =>
    simp only [resE] at hv
    cases h1 : lk E t <;> cases h2 : lk E u <;> simp [h1, h2] at hv
    subst hv
    have e1 := hS.val t _ h1
    have e2 := hS.val u _ h2
    simp [results, hr]
    exact ⟨by simpa using e1, by simpa using e2⟩
  | [t, u, x], hr, hv =>
    simp only [resE] at hv
    cases h1 : lk E t <;> cases h2 : lk E u <;> cases h3 : lk E x <;> simp [h1, h2, h3] at hv
    subst hv
    have e1 := hS.val t _ h1
    have e2 := hS.val u _ h2
    have e3 := hS.val x _ h3
    simp [results, hr]
    exact ⟨by simpa using e1, by simpa using e2, by simpa using e3⟩
  | _ :: _ :: _ :: _ :: _, _, hv => simp [resE] at hv
/-- What a body owes. -/
def KsOf (rs : List Nat) (R : Value → World → Prop) : Ks := ⟨fun E w => ∃ v, resE rs E = some v ∧ R v w, fun E w => ∃ v, resE rs E = some v ∧ R v w, []⟩
theorem W_fun {g : FuncId} (rs : List Nat) {args : Array Value} {R : Value → World → Prop} (hf : P.funcs[g]? = some f) (hb : f.body.isSome = true) (hn : f.ntmps = N)
    (hr : f.results = (rs.map ResultVar.tmp).toArray) (ha : args.size ≤ N) (h : T P N (C f []) (argsEnv 0 args.toList) w (KsOf rs R)) : CallsS P g args w R := by
  intro w' hw
  obtain ⟨c, hc⟩ := Option.isSome_iff_exists.1 hb
  have hC : C f [] = c := by simp [C, hc]
  rw [hC] at h
  refine calls_of_wp hf hc (wp_mono (h _ w' ?_ hw) ?_)
  · refine ⟨by simp [hn]; omega, rfl, fun i v hv => ?_⟩
    obtain ⟨_, h2⟩ := lk_argsEnv _ _ _ _ hv
    have h3 : args[i]? = some v := by simpa using h2
    have hlt : i < args.size := (Array.getElem?_eq_some_iff.1 h3).1
    simp only [Array.getD_eq_getD_getElem?]
    rw [Array.getElem?_append_left hlt, h3]
    rfl
  · intro e a1 w1 hq
    cases e with
    | normal =>
      obtain ⟨E1, w2, h1, h2, v, hv, hR⟩ := hq
      exact ⟨h1.defers, v, results_resE hr h1 hv P w1, v, rfl, w2, h2, hR⟩
    | ret =>
      obtain ⟨E1, w2, h1, h2, v, hv, hR⟩ := hq
      exact ⟨h1.defers, v, results_resE hr h1 hv P w1, v, rfl, w2, h2, hR⟩
    | exit id => obtain ⟨E1, w2, _, _, h3⟩ := hq; exact h3.elim
    | goto l => exact hq.elim
    | panic c => exact hq.elim
    | outgrown => exact hq.elim
end
end Go.Proofs.Qxb6600121a
