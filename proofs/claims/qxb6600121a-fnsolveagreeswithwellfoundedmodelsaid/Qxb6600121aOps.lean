/-
  THE OPERATIONS, one lemma each: 'QV' (quiet: a value, the world as it was) and 'EV' (whatever it does); regions in the text's order, and regions that draw their order.
-/
import Derived.Test.Qxb6600121aSym
import Derived.Maps.AppendAt
import Derived.Laws.NewBlocks
namespace Go.Proofs.Qxb6600121a
open Go

/-! ### Regions in the text's order -/
theorem execOp_deS (ρ : Operand → Value) (o : Oper) : execOp ρ (deS (sop o)) = execOp ρ o := by cases o; rfl
theorem execOp_opr (ρ : Operand → Value) (s : SOp) : execOp ρ (deS s) = execOp ρ (opr s.op s.type) := by cases s; rfl
theorem wanted_deS (o : Oper) (y : Nat → Option Bool) : Region.wanted (deS (sop o)) y = Region.wanted o y := by cases o; rfl
theorem dst_deS (o : Oper) : (deS (sop o)).dst = o.dst := rfl
theorem yielded_deS (ops : Array Oper) (tmps : Array Value) : yielded ((ops.toList.map sop).map deS).toArray tmps = yielded ops tmps := by
  funext j
  unfold yielded
  have : (((ops.toList.map sop).map deS).toArray[j]?).bind (·.dst) = (ops[j]?).bind (·.dst) := by
    simp only [List.getElem?_toArray, List.getElem?_map, Array.getElem?_toList]
    cases ops[j]? <;> rfl
  rw [this]
theorem wp_deS {P : Program} {o : Oper} {a : Act} {w : World} {K : Act → World → Prop} {Q : Exit → Act → World → Prop} : (deS (sop o)).wp P a w K Q = o.wp P a w K Q := by
  unfold Oper.wp Oper.upon
  rw [execOp_deS, dst_deS]
theorem asks_deS {P : Program} {o : Oper} {a : Act} {w : World} : (deS (sop o)).asks P a w = o.asks P a w := by
  unfold Oper.asks
  rw [execOp_deS]
theorem wpList_deS {P : Program} {ops : Array Oper} {Q : Exit → Act → World → Prop} : ∀ (l : List Oper) (a : Act) (w : World),
    wpList P ((ops.toList.map sop).map deS).toArray Q ((l.map sop).map deS) a w = wpList P ops Q l a w
  | [], _, _ => rfl
  | o :: l, a, w => by
    have ih : wpList P ((ops.toList.map sop).map deS).toArray Q ((l.map sop).map deS) = wpList P ops Q l := by
      funext a' w'; exact wpList_deS l a' w'
    simp only [List.map_cons, wpList, wanted_deS, yielded_deS, wp_deS, asks_deS, dst_deS, ih]
theorem wpStill_deS {P : Program} {ops : Array Oper} {w : World} {Q : Act → Prop} : ∀ (l : List Oper) (a : Act),
    wpStill P ((ops.toList.map sop).map deS).toArray w Q ((l.map sop).map deS) a = wpStill P ops w Q l a
  | [], _ => rfl
  | o :: l, a => by
    have ih : wpStill P ((ops.toList.map sop).map deS).toArray w Q ((l.map sop).map deS) = wpStill P ops w Q l := by
      funext a'; exact wpStill_deS l a'
    simp only [List.map_cons, wpStill, wanted_deS, yielded_deS, Oper.still, Oper.stillUpon, execOp_deS, dst_deS, ih]
theorem wpQuiet_deS {P : Program} {ops : Array Oper} {S : World → Prop} {Q : Act → Prop} : ∀ (l : List Oper) (a : Act),
    wpQuiet P ((ops.toList.map sop).map deS).toArray S Q ((l.map sop).map deS) a = wpQuiet P ops S Q l a
  | [], _ => rfl
  | o :: l, a => by
    have ih : wpQuiet P ((ops.toList.map sop).map deS).toArray S Q ((l.map sop).map deS) = wpQuiet P ops S Q l := by
      funext a'; exact wpQuiet_deS l a'
    simp only [List.map_cons, wpQuiet, wanted_deS, yielded_deS, Oper.quiet, Oper.quietAt, execOp_deS, dst_deS, ih]
def TL (P : Program) (N : Nat) (all l : List SOp) (E : Env) (w : World) (k : Ks) : Prop :=
  ∀ a w', Sat N a E → Sim w w' → wpList P (all.map deS).toArray (k.q N) (l.map deS) a w'
def TS (P : Program) (N : Nat) (all l : List SOp) (E : Env) (w : World) (K : Env → Prop) : Prop :=
  ∀ a w', Sat N a E → Sim w w' → wpStill P (all.map deS).toArray w' (fun a' => ∃ E', Sat N a' E' ∧ K E') (l.map deS) a
def TQ (P : Program) (N : Nat) (all l : List SOp) (E : Env) (w : World) (K : Env → Prop) : Prop :=
  ∀ a, Sat N a E → wpQuiet P (all.map deS).toArray (Sim w) (fun a' => ∃ E', Sat N a' E' ∧ K E') (l.map deS) a
def opsOf : Code → Array Oper
  | .region _ ops _ => ops
  | _ => #[]
section
variable {P : Program} {N : Nat} {E : Env} {w : World} {k : Ks} {f : Func} {p : List Nat}
theorem W_reg {l : List SOp} (ht : tag (C f p) = 1) (hs : sopsOf (C f p) = l) (h : TL P N l l E w k) : T P N (C f p) E w k := by
  intro a w' hS hw
  cases hc : C f p <;> rw [hc] at ht hs <;> simp [tag] at ht
  rename_i id ops d
  cases d with
  | true => simp at ht
  | false =>
    simp only [sopsOf] at hs
    subst hs
    have := h a w' hS hw
    rw [wpList_deS] at this
    exact wp_region_list this
theorem W_regTail {l1 l2 : List SOp} (hm : P.follows .mixedOrders = true) (ht : tag (C f p) = 2) (hs : sopsOf (C f p) = l1 ++ l2) (hB : Region.lexTailB .any (opsOf (C f p)) l1.length = true)
    (h : TS P N (l1 ++ l2) l1 E w (fun E' => TL P N (l1 ++ l2) l2 E' w k)) : T P N (C f p) E w k := by
  intro a w' hS hw
  cases hc : C f p <;> rw [hc] at ht hs hB <;> simp [tag] at ht
  rename_i id ops d
  cases d with
  | false => simp at ht
  | true =>
    simp only [sopsOf, opsOf] at hs hB
    have hlen : ops.toList.length = (l1 ++ l2).length := by rw [← hs]; simp
    have e1 : (ops.toList.take l1.length).map sop = l1 := by rw [List.map_take, hs]; simp
    have e2 : (ops.toList.drop l1.length).map sop = l2 := by rw [List.map_drop, hs]; simp
    have h1 := h a { w' with drawn := w'.drawn + 1 } hS (hw.trans (Sim.draw w'))
    rw [← hs] at h1
    have h2 := wp_region_still_tail (P := P) (id := id) (Q := k.q N) (a := a) (w := w') (l := ops.toList) l1.length hm (by simpa using hB)
    simp only [Array.toArray_toList] at h2
    refine h2 ?_
    rw [← wpStill_deS, e1]
    have mono : ∀ (l : List Oper) (a : Act) (Q Q' : Act → Prop), (∀ a, Q a → Q' a) → wpStill P ((ops.toList.map sop).map deS).toArray { w' with drawn := w'.drawn + 1 } Q l a → wpStill P ((ops.toList.map sop).map deS).toArray { w' with drawn := w'.drawn + 1 } Q' l a := by
      intro l
      induction l with
      | nil => intro a Q Q' hq h; exact hq a h
      | cons o l ih =>
        intro a Q Q' hq h
        simp only [wpStill] at h ⊢
        split
        · rename_i hw; rw [if_pos hw] at h; exact Oper.still_mono (fun a' => ih a' Q Q' hq) h
        · rename_i hw; rw [if_neg hw] at h; exact ih _ Q Q' hq h
    refine mono _ _ _ _ ?_ h1
    rintro a' ⟨E', hS', hK⟩
    have h3 := hK a' { w' with drawn := w'.drawn + 1 } hS' (hw.trans (Sim.draw w'))
    rw [← e2, wpList_deS] at h3
    exact h3
theorem W_regQ {l : List SOp} (hm : P.follows .mixedOrders = true) (ht : tag (C f p) = 2) (hs : sopsOf (C f p) = l) (hB : Region.lexB .any (opsOf (C f p)) = true)
    (h : TQ P N l l E w (fun E' => k.nrm E' w)) : T P N (C f p) E w k := by
  intro a w' hS hw
  cases hc : C f p <;> rw [hc] at ht hs hB <;> simp [tag] at ht
  rename_i id ops d
  cases d with
  | false => simp at ht
  | true =>
    simp only [sopsOf, opsOf] at hs hB
    have h1 := h a hS
    rw [← hs, wpQuiet_deS] at h1
    refine wp_region_quiet (C := Sim w) hm hB (hw.trans (Sim.draw w')) ?_
    have mono : ∀ (l : List Oper) (a : Act) (Q Q' : Act → Prop), (∀ a, Q a → Q' a) → wpQuiet P ops (Sim w) Q l a → wpQuiet P ops (Sim w) Q' l a := by
      intro l
      induction l with
      | nil => intro a Q Q' hq h; exact hq a h
      | cons o l ih =>
        intro a Q Q' hq h
        simp only [wpQuiet] at h ⊢
        split
        · rename_i hw; rw [if_pos hw] at h; exact Oper.quiet_mono (fun a' => ih a' Q Q' hq) h
        · rename_i hw; rw [if_neg hw] at h; exact ih _ Q Q' hq h
    refine mono _ _ _ _ ?_ h1
    rintro a' ⟨E', hS', hK⟩ w'' hw''
    exact ⟨E', w, hS', hw'', hK⟩
end

/-! ### One operation -/
/-- Quiet: in whatever world with this heap. -/
def QV (P : Program) (E : Env) (h : Array Obj) (op : Op) (ty : TypeId) (v : Value) : Prop :=
  ∀ (N : Nat) (a : Act) (w : World), Sat N a E → w.heap = h → (execOp a.eval (opr op ty)).run P w = .ok (.value v) w
/-- Whatever it does: behind it K. -/
def EV (P : Program) (N : Nat) (s : SOp) (E : Env) (w : World) (K : Env → World → Prop) : Prop :=
  ∀ (a : Act) (w' : World) (Q : Exit → Act → World → Prop), Sat N a E → Sim w w' → (deS s).wp P a w' (fun a2 w2 => ∃ E2 w3, Sat N a2 E2 ∧ Sim w3 w2 ∧ K E2 w3) Q
section
variable {P : Program} {N : Nat} {E : Env} {w : World} {k : Ks} {all rest : List SOp}
theorem TL_nil (h : k.nrm E w) : TL P N all [] E w k := fun _ _ hS hw => ⟨E, w, hS, hw, h⟩
theorem TL_q {d : Nat} {op : Op} {ty : TypeId} {v : Value} (hd : Nat.ble (d + 1) N = true) (hq : QV P E w.heap op ty v) (h : TL P N all rest ((d, v) :: E) w k) :
    TL P N all (⟨some d, op, ty, none⟩ :: rest) E w k := by
  intro a w' hS hw
  refine wpList_plain rfl fun K hK => ?_
  unfold Oper.wp
  rw [execOp_opr]
  rw [hq N a w' hS hw.heap]
  exact hK _ _ (h _ _ (hS.put (Nat.le_of_ble_eq_true hd) v) hw)
theorem TL_e {d : Option Nat} {op : Op} {ty : TypeId} (he : EV P N ⟨d, op, ty, none⟩ E w (fun E2 w2 => TL P N all rest E2 w2 k)) :
    TL P N all (⟨d, op, ty, none⟩ :: rest) E w k := by
  intro a w' hS hw
  refine wpList_plain rfl fun K hK => ?_
  refine Oper.wp_mono ?_ (he a w' _ hS hw)
  rintro a2 w2 ⟨E2, w3, h1, h2, h3⟩
  exact hK _ _ (h3 a2 w2 h1 h2)
/-- A Bool that is looked at is true or false. -/
theorem TL_cases {t : Nat} {b : Bool} {l : List SOp} (hb : lk E t = some (.bool b)) (h1 : b = true → TL P N all l ((t, .bool true) :: E) w k) (h2 : b = false → TL P N all l ((t, .bool false) :: E) w k) :
    TL P N all l E w k := by
  intro a w' hS hw
  have key : ∀ c, b = c → Sat N a ((t, .bool c) :: E) := by
    rintro c rfl
    refine ⟨hS.size, hS.defers, fun i v hv => ?_⟩
    by_cases hi : t = i
    · subst hi
      rw [lk_cons_eq] at hv
      cases hv
      exact hS.val _ _ hb
    · rw [lk_cons_ne _ _ hi] at hv
      exact hS.val _ _ hv
  cases b with
  | true => exact h1 rfl a w' (key true rfl) hw
  | false => exact h2 rfl a w' (key false rfl) hw
theorem wanted_of {s : SOp} {j t : Nat} {want b : Bool} (hg : s.guard = some (j, want)) (hj : (all[j]?).bind (·.dst) = some t) {a : Act} (hS : Sat N a E) (hb : lk E t = some (.bool b)) (ht : Nat.ble (t + 1) N = true) :
    Region.wanted (deS s) (yielded (all.map deS).toArray a.tmps) = (b == want) := by
  have h1 : (((all.map deS).toArray[j]?).bind (·.dst)) = some t := by
    simp only [List.getElem?_toArray, List.getElem?_map]
    cases h : all[j]? with
    | none => simp [h] at hj
    | some o => simpa [h, deS] using hj
  have h2 : a.tmps[t]? = some (.bool b) := by
    have h3 := hS.val _ _ hb
    have h4 : t < a.tmps.size := by rw [hS.size]; exact Nat.le_of_ble_eq_true ht
    simp only [Array.getD_eq_getD_getElem?] at h3
    rw [Array.getElem?_eq_getElem h4] at h3 ⊢
    simpa using h3
  have hg' : (deS s).guard = some (j, want) := hg
  simp only [Region.wanted, hg', yielded, h1, Option.bind_some, h2]
  cases b <;> cases want <;> rfl
/-- A guarded operation whose guard says yes. -/
theorem TL_gq {d : Nat} {op : Op} {ty : TypeId} {v : Value} {j t : Nat} {want : Bool} (hj : (all[j]?).bind (·.dst) = some t) (hb : lk E t = some (.bool want)) (ht : Nat.ble (t + 1) N = true)
    (hd : Nat.ble (d + 1) N = true) (hq : QV P E w.heap op ty v) (h : TL P N all rest ((d, v) :: E) w k) :
    TL P N all (⟨some d, op, ty, some (j, want)⟩ :: rest) E w k := by
  intro a w' hS hw
  have hwt := wanted_of (s := ⟨some d, op, ty, some (j, want)⟩) rfl hj hS hb ht
  refine wpList_step fun K hK => ?_
  have : Region.wanted (deS ⟨some d, op, ty, some (j, want)⟩) (yielded (all.map deS).toArray a.tmps) = true := by rw [hwt]; cases want <;> rfl
  rw [if_pos this]
  unfold Oper.wp
  rw [execOp_opr]
  rw [hq N a w' hS hw.heap]
  exact hK _ _ (h _ _ (hS.put (Nat.le_of_ble_eq_true hd) v) hw)
theorem TL_ge {d : Option Nat} {op : Op} {ty : TypeId} {j t : Nat} {want : Bool} (hj : (all[j]?).bind (·.dst) = some t) (hb : lk E t = some (.bool want)) (ht : Nat.ble (t + 1) N = true)
    (he : EV P N ⟨d, op, ty, some (j, want)⟩ E w (fun E2 w2 => TL P N all rest E2 w2 k)) :
    TL P N all (⟨d, op, ty, some (j, want)⟩ :: rest) E w k := by
  intro a w' hS hw
  have hwt := wanted_of (s := ⟨d, op, ty, some (j, want)⟩) rfl hj hS hb ht
  refine wpList_step fun K hK => ?_
  have : Region.wanted (deS ⟨d, op, ty, some (j, want)⟩) (yielded (all.map deS).toArray a.tmps) = true := by rw [hwt]; cases want <;> rfl
  rw [if_pos this]
  refine Oper.wp_mono ?_ (he a w' _ hS hw)
  rintro a2 w2 ⟨E2, w3, h1, h2, h3⟩
  exact hK _ _ (h3 a2 w2 h1 h2)
/-- A guarded operation whose guard says no. -/
theorem TL_gs {d : Nat} {op : Op} {ty : TypeId} {j t : Nat} {want : Bool} (hj : (all[j]?).bind (·.dst) = some t) (hb : lk E t = some (.bool !want)) (ht : Nat.ble (t + 1) N = true)
    (hd : Nat.ble (d + 1) N = true) (h : TL P N all rest ((d, undef) :: E) w k) :
    TL P N all (⟨some d, op, ty, some (j, want)⟩ :: rest) E w k := by
  intro a w' hS hw
  have hwt := wanted_of (s := ⟨some d, op, ty, some (j, want)⟩) rfl hj hS hb ht
  refine wpList_step fun K hK => ?_
  have : Region.wanted (deS ⟨some d, op, ty, some (j, want)⟩) (yielded (all.map deS).toArray a.tmps) = false := by rw [hwt]; cases want <;> rfl
  rw [if_neg (by rw [this]; decide)]
  exact hK _ _ (h _ _ (hS.put (Nat.le_of_ble_eq_true hd) _) hw)
theorem TS_nil {K : Env → Prop} (h : K E) : TS P N all [] E w K := fun _ _ hS _ => ⟨E, hS, h⟩
theorem TS_q {K : Env → Prop} {d : Nat} {op : Op} {ty : TypeId} {v : Value} (hd : Nat.ble (d + 1) N = true) (hq : QV P E w.heap op ty v) (h : TS P N all rest ((d, v) :: E) w K) :
    TS P N all (⟨some d, op, ty, none⟩ :: rest) E w K := by
  intro a w' hS hw
  show wpStill P _ w' _ (deS ⟨some d, op, ty, none⟩ :: rest.map deS) a
  unfold wpStill
  rw [if_pos (by rfl)]
  unfold Oper.still
  rw [execOp_opr, hq N a w' hS hw.heap]
  exact ⟨rfl, h _ _ (hS.put (Nat.le_of_ble_eq_true hd) v) hw⟩
theorem TQ_nil {K : Env → Prop} (h : K E) : TQ P N all [] E w K := fun _ hS => ⟨E, hS, h⟩
theorem TQ_q {K : Env → Prop} {d : Nat} {op : Op} {ty : TypeId} {v : Value} (hd : Nat.ble (d + 1) N = true) (hq : QV P E w.heap op ty v) (h : TQ P N all rest ((d, v) :: E) w K) :
    TQ P N all (⟨some d, op, ty, none⟩ :: rest) E w K := by
  intro a hS
  show wpQuiet P _ _ _ (deS ⟨some d, op, ty, none⟩ :: rest.map deS) a
  unfold wpQuiet
  rw [if_pos (by rfl)]
  refine ⟨v, fun w' hw' => ?_, h _ (hS.put (Nat.le_of_ble_eq_true hd) v)⟩
  unfold Oper.quietAt
  rw [execOp_opr, hq N a w' hS hw'.heap]
  exact ⟨rfl, rfl⟩
theorem TQ_cases {K : Env → Prop} {t : Nat} {b : Bool} {l : List SOp} (hb : lk E t = some (.bool b)) (h1 : b = true → TQ P N all l ((t, .bool true) :: E) w K) (h2 : b = false → TQ P N all l ((t, .bool false) :: E) w K) :
    TQ P N all l E w K := by
  intro a hS
  have key : ∀ c, b = c → Sat N a ((t, .bool c) :: E) := by
    rintro c rfl
    refine ⟨hS.size, hS.defers, fun i v hv => ?_⟩
    by_cases hi : t = i
    · subst hi
      rw [lk_cons_eq] at hv
      cases hv
      exact hS.val _ _ hb
    · rw [lk_cons_ne _ _ hi] at hv
      exact hS.val _ _ hv
  cases b with
  | true => exact h1 rfl a (key true rfl)
  | false => exact h2 rfl a (key false rfl)
theorem TQ_gq {K : Env → Prop} {d : Nat} {op : Op} {ty : TypeId} {v : Value} {j t : Nat} {want : Bool} (hj : (all[j]?).bind (·.dst) = some t) (hb : lk E t = some (.bool want)) (ht : Nat.ble (t + 1) N = true)
    (hd : Nat.ble (d + 1) N = true) (hq : QV P E w.heap op ty v) (h : TQ P N all rest ((d, v) :: E) w K) :
    TQ P N all (⟨some d, op, ty, some (j, want)⟩ :: rest) E w K := by
  intro a hS
  have hwt := wanted_of (s := ⟨some d, op, ty, some (j, want)⟩) rfl hj hS hb ht
  show wpQuiet P _ _ _ (deS ⟨some d, op, ty, some (j, want)⟩ :: rest.map deS) a
  unfold wpQuiet
  rw [if_pos (by rw [hwt]; cases want <;> rfl)]
  refine ⟨v, fun w' hw' => ?_, h _ (hS.put (Nat.le_of_ble_eq_true hd) v)⟩
  unfold Oper.quietAt
  rw [execOp_opr, hq N a w' hS hw'.heap]
  exact ⟨rfl, rfl⟩
theorem TQ_gs {K : Env → Prop} {d : Nat} {op : Op} {ty : TypeId} {j t : Nat} {want : Bool} (hj : (all[j]?).bind (·.dst) = some t) (hb : lk E t = some (.bool !want)) (ht : Nat.ble (t + 1) N = true)
    (hd : Nat.ble (d + 1) N = true) (h : TQ P N all rest ((d, undef) :: E) w K) :
    TQ P N all (⟨some d, op, ty, some (j, want)⟩ :: rest) E w K := by
  intro a hS
  have hwt := wanted_of (s := ⟨some d, op, ty, some (j, want)⟩) rfl hj hS hb ht
  show wpQuiet P _ _ _ (deS ⟨some d, op, ty, some (j, want)⟩ :: rest.map deS) a
  unfold wpQuiet
  rw [if_neg (by rw [hwt]; cases want <;> decide)]
  exact h _ (hS.put (Nat.le_of_ble_eq_true hd) _)
theorem EV_q {d : Nat} {op : Op} {ty : TypeId} {v : Value} {g : Option (Nat × Bool)} {K : Env → World → Prop} (hd : Nat.ble (d + 1) N = true) (hq : QV P E w.heap op ty v) (h : K ((d, v) :: E) w) :
    EV P N ⟨some d, op, ty, g⟩ E w K := by
  intro a w' Q hS hw
  unfold Oper.wp
  rw [execOp_opr, hq N a w' hS hw.heap]
  exact ⟨_, w, hS.put (Nat.le_of_ble_eq_true hd) v, hw, h⟩
end
end Go.Proofs.Qxb6600121a
