/-
  A REGION THAT DRAWS ITS ORDER, ORDER BY ORDER (for one that makes blocks).
-/
import Derived.Test.Qxb6600121aHeld
namespace Go.Proofs.Qxb6600121a
open Go
/-- What has been carried out is 'listed'; 'm' operations are left. -/
def TX (P : Program) (N : Nat) (ops : Array Oper) (listed : Array Bool) (m : Nat) (E : Env) (w : World) (k : Ks) : Prop :=
  ∀ a w', Sat N a E → Sim w w' → wpAny P .any ops (k.q N) m listed a w'
def allR : List Nat → (Nat → Prop) → Prop
  | [], _ => True
  | i :: l, Q => Q i ∧ allR l Q
theorem allR_mem {Q : Nat → Prop} : ∀ {l : List Nat}, allR l Q → ∀ i ∈ l, Q i
  | _ :: l, h, i, hi => by
    rcases List.mem_cons.1 hi with rfl | hi
    · exact h.1
    · exact allR_mem h.2 i hi
section
variable {P : Program} {N : Nat} {E : Env} {w : World} {k : Ks} {f : Func} {p : List Nat} {ops : Array Oper} {listed : Array Bool} {m : Nat}
theorem W_regX {n : Nat} (hm : P.follows .mixedOrders = true) (ht : tag (C f p) = 2) (hl : (opsOf (C f p)).size = n)
    (h : TX P N (opsOf (C f p)) (Array.replicate n false) n E w k) : T P N (C f p) E w k := by
  intro a w' hSat hw
  cases hc : C f p <;> rw [hc] at ht hl h <;> simp [tag] at ht
  rename_i id ops d
  cases d with
  | false => simp at ht
  | true =>
    simp only [opsOf] at hl h
    subst hl
    exact wp_region_any hm (h a { w' with drawn := w'.drawn + 1 } hSat (hw.trans (Sim.draw w')))
theorem TX_nil (hr : Region.ready .any ops listed = []) (h : k.nrm E w) : TX P N ops listed 0 E w k :=
  fun _ _ hS hw => ⟨hr, E, w, hS, hw, h⟩
/-- Whichever may come up comes up. -/
theorem TX_all {rs : List Nat} (hr : Region.ready .any ops listed = rs) (hne : rs.isEmpty = false)
    (h : allR rs fun i => ∃ s, (ops[i]?).map sop = some s ∧ s.guard = none ∧ EV P N s E w (fun E2 w2 => TX P N ops (listed.setIfInBounds i true) m E2 w2 k)) : TX P N ops listed (m + 1) E w k := by
  intro a w' hS hw
  refine ⟨fun h0 => ?_, fun i hi => ?_⟩
  · rw [hr] at h0; subst h0; cases hne
  · rw [hr] at hi
    obtain ⟨s, h1, h2, h3⟩ := allR_mem h i hi
    cases hoi : ops[i]? with
    | none => rw [hoi] at h1; cases h1
    | some oi =>
      rw [hoi] at h1
      have hsop : sop oi = s := by simpa using h1
      unfold wpOp
      simp only [hoi]
      have hgo : oi.guard = none := by have := congrArg SOp.guard hsop; rw [h2] at this; exact this
      rw [if_pos (by simp [Region.wanted, hgo])]
      refine .inl ?_
      rw [← wp_deS, hsop]
      refine Oper.wp_mono ?_ (h3 a w' _ hS hw)
      rintro a2 w2 ⟨E2, w3, g1, g2, g3⟩
      exact g3 a2 w2 g1 g2
/-- An operation that looks at no memory may be taken first. -/
theorem TX_q {i d : Nat} {op : Op} {ty : TypeId} {v : Value} (hi : (ops[i]?).map sop = some ⟨some d, op, ty, none⟩) (hn : Region.noSelect ops = true) (hr : (Region.ready .any ops listed).contains i = true) (hf : Region.free .any ops listed i = true)
    (hd : Nat.ble (d + 1) N = true) (hq : ∀ h, QV P E h op ty v) (h : TX P N ops (listed.setIfInBounds i true) m ((d, v) :: E) w k) : TX P N ops listed (m + 1) E w k := by
  intro a w' hS hw
  cases hoi : ops[i]? with
  | none => rw [hoi] at hi; cases hi
  | some oi =>
    rw [hoi] at hi
    have hsop : sop oi = ⟨some d, op, ty, none⟩ := by simpa using hi
    have hdst : oi.dst = some d := by have := congrArg SOp.dst hsop; exact this
    have hg : oi.guard = none := by have := congrArg SOp.guard hsop; exact this
    have hex : ∀ ρ, execOp ρ oi = execOp ρ (opr op ty) := by
      intro ρ
      rw [← execOp_deS, hsop, execOp_opr]
    refine wpAny_first (v := v) hoi (Region.noSelect_spec hn) (fun c a w hq => hq) m listed a w' (Region.free_spec hoi hf) (by simpa using hr) ?_ ?_
    · refine .inl ⟨by simp [Region.wanted, hg], fun w2 => ?_⟩
      rw [hex]
      exact hq w2.heap N a w2 hS rfl
    · rw [hdst]
      exact h _ w' (hS.put (Nat.le_of_ble_eq_true hd) v) hw
end
end Go.Proofs.Qxb6600121a
