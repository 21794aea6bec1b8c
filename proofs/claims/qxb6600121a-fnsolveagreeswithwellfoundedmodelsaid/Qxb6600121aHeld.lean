/-
  REGIONS THAT DRAW THEIR ORDER AND WRITE OR CALL: the quiet operations are taken first under a condition S on the heap; the others come up one at a time. And some operations more.
-/
import Derived.Test.Qxb6600121aEffs
namespace Go.Proofs.Qxb6600121a
open Go

/-- The order in which the walk takes the operations: number, quiet or not, the operation. -/
def ordOk (ops : Array Oper) : Array Bool → List (Nat × Bool × SOp) → Prop
  | listed, [] => Region.ready .any ops listed = []
  | listed, x :: r => (ops[x.1]?).map sop = some x.2.2 ∧
      (bif x.2.1 then (Region.ready .any ops listed).contains x.1 && Region.free .any ops listed x.1 else (Region.ready .any ops listed == [x.1])) = true ∧
      ordOk ops (listed.setIfInBounds x.1 true) r
theorem ordOk_nil {ops : Array Oper} {listed : Array Bool} (h : Region.ready .any ops listed = []) : ordOk ops listed [] := h
def TH (P : Program) (N : Nat) (ops : Array Oper) (S : Array Obj → Prop) (l : List (Nat × Bool × SOp)) (E : Env) (w : World) (k : Ks) : Prop :=
  ∀ listed a w', ordOk ops listed l → Region.noSelect ops = true → Sat N a E → Sim w w' → S w'.heap → wpAnyH P .any ops (k.q N) (fun w => S w.heap) l.length listed a w'
section
variable {P : Program} {N : Nat} {E : Env} {w : World} {k : Ks} {f : Func} {p : List Nat} {ops : Array Oper} {S : Array Obj → Prop} {r : List (Nat × Bool × SOp)}
theorem W_regH (S : Array Obj → Prop) {l : List (Nat × Bool × SOp)} (hm : P.follows .mixedOrders = true) (ht : tag (C f p) = 2) (hn : Region.noSelect (opsOf (C f p)) = true)
    (hl : (opsOf (C f p)).size = l.length) (ho : ordOk (opsOf (C f p)) (Array.replicate (opsOf (C f p)).size false) l) (hS : S w.heap)
    (h : TH P N (opsOf (C f p)) S l E w k) : T P N (C f p) E w k := by
  intro a w' hSat hw
  cases hc : C f p <;> rw [hc] at ht hn hl ho h <;> simp [tag] at ht
  rename_i id ops d
  cases d with
  | false => simp at ht
  | true =>
    simp only [opsOf] at hn hl ho h
    refine wp_region_held (S := fun w => S w.heap) hm ?_
    rw [hl]
    rw [hl] at ho
    exact h _ a { w' with drawn := w'.drawn + 1 } ho hn hSat (hw.trans (Sim.draw w')) (by show S w'.heap; rw [hw.heap]; exact hS)
theorem TH_nil (h : k.nrm E w) : TH P N ops S [] E w k := by
  intro listed a w' ho _ hS hw _
  exact wpAnyH_done ho ⟨E, w, hS, hw, h⟩ 0
theorem TH_q {i d : Nat} {op : Op} {ty : TypeId} {v : Value} (hd : Nat.ble (d + 1) N = true) (hq : ∀ h, S h → QV P E h op ty v) (h : TH P N ops S r ((d, v) :: E) w k) :
    TH P N ops S ((i, true, ⟨some d, op, ty, none⟩) :: r) E w k := by
  intro listed a w' ho hn hS hw hSw
  obtain ⟨h1, h2, h3⟩ := ho
  simp only [cond_true, Bool.and_eq_true] at h2
  cases hoi : ops[i]? with
  | none => rw [hoi] at h1; cases h1
  | some oi =>
    rw [hoi] at h1
    have hsop : sop oi = ⟨some d, op, ty, none⟩ := by simpa using h1
    have hdst : oi.dst = some d := by have := congrArg SOp.dst hsop; exact this
    have hg : oi.guard = none := by have := congrArg SOp.guard hsop; exact this
    have hex : ∀ ρ, execOp ρ oi = execOp ρ (opr op ty) := by
      intro ρ
      rw [← execOp_deS, hsop, execOp_opr]
    refine wpAnyH_take (v := v) hoi hn h2.2 h2.1 (fun c a w hq => hq) ?_ hSw ?_
    · refine .inl ⟨by simp [Region.wanted, hg], fun w2 hw2 => ?_⟩
      rw [hex]
      exact hq w2.heap hw2 N a w2 hS rfl
    · rw [hdst]
      exact h _ _ w' h3 hn (hS.put (Nat.le_of_ble_eq_true hd) v) hw hSw
theorem TH_e {i : Nat} {s : SOp} (hg : s.guard = none) (he : EV P N s E w (fun E2 w2 => S w2.heap ∧ TH P N ops S r E2 w2 k)) :
    TH P N ops S ((i, false, s) :: r) E w k := by
  intro listed a w' ho hn hS hw hSw
  obtain ⟨h1, h2, h3⟩ := ho
  simp only [cond_false] at h2
  have hr : Region.ready .any ops listed = [i] := by simpa using h2
  cases hoi : ops[i]? with
  | none => rw [hoi] at h1; cases h1
  | some oi =>
    rw [hoi] at h1
    have hsop : sop oi = s := by simpa using h1
    refine wpAnyH_all hr (by simp) ?_
    intro j hj
    have : j = i := by simpa using hj
    subst this
    unfold wpOp
    simp only [hoi]
    have hgo : oi.guard = none := by have := congrArg SOp.guard hsop; rw [hg] at this; exact this
    rw [if_pos (by simp [Region.wanted, hgo])]
    refine .inl ?_
    rw [← wp_deS, hsop]
    refine Oper.wp_mono ?_ (he a w' _ hS hw)
    rintro a2 w2 ⟨E2, w3, g1, g2, g3, g4⟩
    have hs2 : S w2.heap := by rw [g2.heap]; exact g3
    exact ⟨hs2, g4 _ a2 w2 h3 hn g1 g2 hs2⟩
end

/-! ### Some operations more -/
section
variable {P : Program} {E : Env} {h : Array Obj} {ty : TypeId}
theorem QV_func {fn : Fn} {caps : List Operand} {vs : List Value} (hc : evL E caps = some vs) : QV P E h (.makeFunc fn #[] caps.toArray) ty (.func fn #[] vs.toArray) :=
  fun _ _ _ hS _ => by
    have e1 := hS.evL hc
    simp [execOp, opr, Instr.makeFunc, e1]
theorem equal_bool {P : Program} {t : TypeId} (ht : P.underlying t = some .bool) (a b : Bool) (w : World) : (Op.equal t (.bool a) (.bool b)).run P w = .ok (a == b) w := by
  have key : ∀ d, (Op.equalIn (d + 1) t (.bool a) (.bool b)).run P w = .ok (a == b) w := by
    intro d
    simp [Op.equalIn, run_underlying ht]
  exact key 9999
theorem equal_slice_nil {P : Program} {t e : TypeId} (ht : P.underlying t = some (.slice e)) (a : Option Addr) (n c : Nat) (w : World) : (Op.equal t (.slice a n c) (.slice none 0 0)).run P w = .ok a.isNone w := by
  have key : ∀ d, (Op.equalIn (d + 1) t (.slice a n c) (.slice none 0 0)).run P w = .ok a.isNone w := by
    intro d
    cases a <;> simp [Op.equalIn, run_underlying ht]
  exact key 9999
theorem QV_neqB {x y : Operand} {t t' : TypeId} {a b : Bool} (hx : evO E x = some (.bool a)) (hy : evO E y = some (.bool b)) (ht : P.underlying t = some .bool) : QV P E h (.binOp .neq t x y t') ty (.bool (!(a == b))) :=
  fun _ _ w hS _ => by
    simp [execOp, opr, hS.ev hx, hS.ev hy, eqGuard, binOp, equal_bool ht]
theorem QV_isNil {x : Operand} {t t' e : TypeId} {a : Option Addr} {n c : Nat} (hx : evO E x = some (.slice a n c)) (he : elT P t = some e) : QV P E h (.binOp .eql t x (.const (.slice none 0 0)) t') ty (.bool a.isNone) :=
  fun _ ac w hS _ => by
    have e2 : ac.eval (.const (.slice none 0 0)) = .slice none 0 0 := rfl
    simp [execOp, opr, hS.ev hx, e2, eqGuard, binOp, equal_slice_nil (und_el he)]
def evP (E : Env) : List (Nat × Operand) → Option (List (Nat × Value))
  | [] => some []
  | p :: xs => match evO E p.2, evP E xs with
    | some v, some vs => some ((p.1, v) :: vs)
    | _, _ => none
theorem Sat.evP {N : Nat} {a : Act} (hS : Sat N a E) : ∀ {xs : List (Nat × Operand)} {vs : List (Nat × Value)}, Qxb6600121a.evP E xs = some vs → xs.map (fun p => (p.1, a.eval p.2)) = vs
  | [], vs, h => by simp [Qxb6600121a.evP] at h; simp [h]
  | x :: xs, vs, h => by
    simp only [Qxb6600121a.evP] at h
    cases h1 : evO E x.2 <;> cases h2 : Qxb6600121a.evP E xs <;> simp [h1, h2] at h
    subst h
    simp [hS.ev h1, Sat.evP hS h2]
/-- A struct's value: its run, for the kernel. -/
theorem QV_build {t : TypeId} {ps : List (Nat × Operand)} {pv : List (Nat × Value)} {v : Value} (he : Qxb6600121a.evP E ps = some pv) (hr : ∀ w, (Instr.build t pv.toArray).run P w = .ok v w) : QV P E h (.build t ps.toArray) ty v :=
  fun _ _ w hS _ => by
    have e1 := hS.evP he
    simp [execOp, opr, e1, hr]
end
section
variable {P : Program} {N : Nat} {E : Env} {w : World} {k : Ks} {f : Func} {p : List Nat} {ty : TypeId} {g : Option (Nat × Bool)} {K : Env → World → Prop}
theorem EV_callD {d : Nat} {fo : Operand} {args : List Operand} {ts : Array TypeId} {gf : FuncId} {caps : Array Value} {vs : List Value} {R : Value → World → Prop} (hd : Nat.ble (d + 1) N = true) (hf : evO E fo = some (.func (.func gf) #[] caps)) (ha : evL E args = some vs)
    (hc : callable P gf = true) (hk : CallsS P gf (vs.toArray ++ caps) w R) (h : ∀ v w2, R v w2 → K ((d, v) :: E) w2) :
    EV P N ⟨some d, .call { callee := .value fo, args := args.toArray, argTypes := ts }, ty, g⟩ E w K :=
  EV_call hf ha hc (fun i hi => by cases hi; exact hd) hk h
theorem W_condT {c : Operand} (ht : condOp (C f p) = some c) (hc : evO E c = some (.bool true)) (h1 : T P N (C f (0 :: p)) E w k) : T P N (C f p) E w k :=
  W_cond ht hc (fun _ => h1) (fun h => by cases h)
theorem W_condF {c : Operand} (ht : condOp (C f p) = some c) (hc : evO E c = some (.bool false)) (h1 : T P N (C f (1 :: p)) E w k) : T P N (C f p) E w k :=
  W_cond ht hc (fun h => by cases h) (fun _ => h1)
/-- An assertion in the middle. -/
theorem W_mid (J : Env → World → Prop) {c : Code} (h1 : T P N c E w { k with nrm := J }) (h2 : ∀ E' w', J E' w' → k.nrm E' w') : T P N c E w k := by
  intro a w' hS hw
  refine wp_mono (h1 a w' hS hw) ?_
  intro e a1 w1 hq
  cases e with
  | normal => obtain ⟨E1, w2, g1, g2, g3⟩ := hq; exact ⟨E1, w2, g1, g2, h2 _ _ g3⟩
  | ret => exact hq
  | exit id => exact hq
  | goto l => exact hq
  | panic c => exact hq
  | outgrown => exact hq
/-- A call that only looks, in a region that draws its order. -/
theorem TQ_call {all rest : List SOp} {KK : Env → Prop} {d : Nat} {fo : Operand} {args : List Operand} {ts : Array TypeId} {gf : FuncId} {caps : Array Value} {vs : List Value} {v : Value} (hd : Nat.ble (d + 1) N = true) (hf : evO E fo = some (.func (.func gf) #[] caps)) (ha : evL E args = some vs)
    (hc : callable P gf = true) (hk : CallsS P gf (vs.toArray ++ caps) w (fun u w2 => u = v ∧ w2 = w)) (h : TQ P N all rest ((d, v) :: E) w KK) :
    TQ P N all (⟨some d, .call { callee := .value fo, args := args.toArray, argTypes := ts }, ty, none⟩ :: rest) E w KK := by
  intro a hS
  show wpQuiet P _ _ _ (deS ⟨some d, .call { callee := .value fo, args := args.toArray, argTypes := ts }, ty, none⟩ :: rest.map deS) a
  unfold wpQuiet
  rw [if_pos (by rfl)]
  refine ⟨v, fun w' hw' => ?_, h _ (hS.put (Nat.le_of_ble_eq_true hd) v)⟩
  unfold Oper.quietAt
  have hr : (execOp a.eval (deS ⟨some d, .call { callee := .value fo, args := args.toArray, argTypes := ts }, ty, none⟩)).run P w' = .ok (.enter gf (vs.toArray ++ caps)) w' := by
    have e1 := hS.evL ha
    simp [execOp, deS, resolve, Deferred.ofValue, invoke, hS.ev hf, e1, callFunc_run hc]
  rw [hr]
  refine ⟨rfl, (hk w' hw').mono ?_⟩
  rintro e w2 ⟨u, rfl, w3, hs, rfl, rfl⟩
  exact ⟨rfl, hs⟩
end
end Go.Proofs.Qxb6600121a
