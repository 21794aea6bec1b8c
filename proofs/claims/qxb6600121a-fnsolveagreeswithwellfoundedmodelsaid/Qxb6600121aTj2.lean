/-
  THE COMPONENTS' STATE IN MEMORY: the top frame, pops.
-/
import Derived.Test.Qxb6600121aW41
import Derived.Test.Qxb6600121aAny
namespace Go.Proofs.Qxb6600121a
open Go
theorem tbok {s a b c d : Nat} (h1 : s ≤ a ∧ a < s + 4) (h2 : s ≤ b ∧ b < s + 4) (h3 : s ≤ c ∧ c < s + 4) (h4 : s ≤ d ∧ d < s + 4) (e1 : a ≠ b) (e2 : a ≠ c) (e3 : a ≠ d) (e4 : b ≠ c) (e5 : b ≠ d) (e6 : c ≠ d) : TB.ok ⟨s, a, b, c, d⟩ :=
  ⟨h1, h2, h3, h4, e1, e2, e3, e4, e5, e6⟩
section
variable {w w' : World} {own : Nat → Nat} {B : TB} {n : Nat} {t : TJ} {sv cv av ev : Value} {f : Fm} {rest : List Fm}
/-- The top frame. -/
structure Top (h : Array Obj) (own : Nat → Nat) (B : TB) (cv : Value) (f : Fm) (rest : List Fm) (g cap : Nat) (cs : List Value) : Prop where
  v : cv = .slice (some ⟨g, 0, none⟩) (rest.length + 1) cap
  n1 : rest.length + 1 ≤ cap
  n2 : cap ≤ maxLen
  blk : Blk h g 68 cs
  len : cs.length = cap * 3
  take : cs.take ((rest.length + 1) * 3) = fcells rest.reverse ++ fcell f
  own : own g = 2 ∧ (B.s + 10 ≤ g ∨ g = B.s + 7)
theorem TMem.top {h : Array Obj} (m : TMem h own B n t sv cv av ev) (hc : t.calls = f :: rest) : ∃ g cap cs, Top h own B cv f rest g cap cs := by
  have hr := m.vC.row
  rw [hc] at hr
  obtain ⟨g, cap, cs, h1, h2, h3, h4, h5, h6⟩ := hr.blk (by simp)
  refine ⟨g, cap, cs, by simpa using h1, by simpa using h2, h3, h4, h5, ?_, m.vC.own g (by rw [h1]; rfl)⟩
  rw [List.length_cons] at h6
  rw [h6]
  simp [fcells]
theorem Top.at {h : Array Obj} {g cap : Nat} {cs : List Value} (tp : Top h own B cv f rest g cap cs) (j : Nat) (hj : j < 3) : cs[rest.length * 3 + j]? = (fcell f)[j]? := by
  have e : (cs.take ((rest.length + 1) * 3))[rest.length * 3 + j]? = cs[rest.length * 3 + j]? := by rw [List.getElem?_take, if_pos (by omega)]
  rw [← e, tp.take, List.getElem?_append_right (by rw [fcells_len]; simp), fcells_len]
  congr 1
  simp
theorem Top.c0 {h : Array Obj} {g cap : Nat} {cs : List Value} (tp : Top h own B cv f rest g cap cs) : cel h g (rest.length * 3) = some (.int .i64 (f.a : Int)) := by
  rw [tp.blk.cel]; exact tp.at 0 (by omega)
theorem Top.c1 {h : Array Obj} {g cap : Nat} {cs : List Value} (tp : Top h own B cv f rest g cap cs) : cel h g (rest.length * 3 + 1) = some (.int .i64 (f.r : Int)) := by
  rw [tp.blk.cel]; exact tp.at 1 (by omega)
theorem Top.c2 {h : Array Obj} {g cap : Nat} {cs : List Value} (tp : Top h own B cv f rest g cap cs) : cel h g (rest.length * 3 + 2) = some (.int .i64 (f.i : Int)) := by
  rw [tp.blk.cel]; exact tp.at 2 (by omega)
theorem Top.fr {X : Nat → Prop} {g cap : Nat} {cs : List Value} (tp : Top w.heap own B cv f rest g cap cs) (hf : Fr X w w') (hX : ¬ X g) : Top w'.heap own B cv f rest g cap cs :=
  ⟨tp.v, tp.n1, tp.n2, tp.blk.fr hf hX, tp.len, tp.take, tp.own⟩
theorem Top.lt {h : Array Obj} {g cap : Nat} {cs : List Value} (tp : Top h own B cv f rest g cap cs) : rest.length * 3 + 2 < cs.length := by
  have := tp.len
  have := tp.n1
  omega
theorem Top.set2 {g cap x : Nat} {cs : List Value} (tp : Top w.heap own B cv f rest g cap cs) (hu : Upd w w' g 68 (cs.set (rest.length * 3 + 2) (.int .i64 (x : Int)))) : Top w'.heap own B cv ⟨f.a, f.r, x⟩ rest g cap (cs.set (rest.length * 3 + 2) (.int .i64 (x : Int))) := by
  refine ⟨tp.v, tp.n1, tp.n2, hu.blk, by simpa using tp.len, ?_, tp.own⟩
  rw [List.take_set, tp.take, List.set_append_right _ _ (by rw [fcells_len]; simp), fcells_len]
  simp [fcell]
theorem Top.set1 {g cap x : Nat} {cs : List Value} (tp : Top w.heap own B cv f rest g cap cs) (hu : Upd w w' g 68 (cs.set (rest.length * 3 + 1) (.int .i64 (x : Int)))) : Top w'.heap own B cv ⟨f.a, x, f.i⟩ rest g cap (cs.set (rest.length * 3 + 1) (.int .i64 (x : Int))) := by
  refine ⟨tp.v, tp.n1, tp.n2, hu.blk, by simpa using tp.len, ?_, tp.own⟩
  rw [List.take_set, tp.take, List.set_append_right _ _ (by rw [fcells_len]; simp), fcells_len]
  simp [fcell]
theorem Top.row {h : Array Obj} {g cap : Nat} {cs : List Value} (tp : Top h own B cv f rest g cap cs) : Row h 68 3 cv (f :: rest).length (fcells (f :: rest).reverse) := by
  have h1 := Row.of_blk (sz := 3) tp.blk tp.n1 tp.n2 tp.len
  rw [tp.take] at h1
  rw [tp.v]
  have e1 : fcells (f :: rest).reverse = fcells rest.reverse ++ fcell f := by simp [fcells]
  rw [e1]
  exact h1
/-- The top frame rewritten in place. -/
theorem TMem.retop (hB : B.ok) (m : TMem w.heap own B n t sv cv av ev) {g cap : Nat} {cs cs' : List Value} {f' : Fm} (tp : Top w.heap own B cv f rest g cap cs) (hu : Upd w w' g 68 cs') (tp' : Top w'.heap own B cv f' rest g cap cs') :
    TMem w'.heap own B n { t with calls := f' :: rest } sv cv av ev := m.storeC hB tp.own hu tp'.row
/-- The calls without the top frame. -/
theorem Top.popVec {h : Array Obj} {g cap : Nat} {cs : List Value} (tp : Top h own B cv f rest g cap cs) (hv : Vec h own B.s 2 68 3 cv (f :: rest).length (fcells (f :: rest).reverse)) :
    Vec h own B.s 2 68 3 (.slice (some ⟨g, 0, none⟩) rest.length cap) rest.length (fcells rest.reverse) := by
  have hr := hv.row
  rw [tp.v] at hr
  have h1 := Row.take (n := rest.length + 1) (m := rest.length) hr (by omega)
  refine ⟨?_, fun g2 h2 => ?_⟩
  · have e1 : fcells (f :: rest).reverse = fcells rest.reverse ++ fcell f := by simp [fcells]
    rw [e1, List.take_append_of_le_length (by rw [fcells_len]; simp), List.take_of_length_le (by rw [fcells_len]; simp)] at h1
    exact h1
  · have : g2 = g := by cases h2; rfl
    subst this
    exact tp.own
/-- The top of the stack. -/
theorem TMem.topS {h : Array Obj} {x : Nat} {st : List Nat} (m : TMem h own B n t sv cv av ev) (hs : t.stack = x :: st) : ∃ g cap, sv = .slice (some ⟨g, 0, none⟩) (st.length + 1) cap ∧ st.length + 1 ≤ cap ∧ cel h g st.length = some (.int .i64 (x : Int)) ∧
    Vec h own B.s 1 3 1 (.slice (some ⟨g, 0, none⟩) st.length cap) st.length (nats st.reverse) := by
  have hr := m.vS.row
  rw [hs] at hr
  have e0 : nats (x :: st).reverse = nats st.reverse ++ [.int .i64 (x : Int)] := by simp [nats]
  obtain ⟨g, cap, h1, h2, h3⟩ := hr.pos (by simp)
  have hown := m.vS.own g (by rw [h1]; rfl)
  refine ⟨g, cap, by simpa using h1, by simpa using h2, ?_, ?_, fun g2 hg2 => ?_⟩
  · refine h3 st.length _ ?_
    rw [e0, List.getElem?_append_right (by rw [nats_len]; simp), nats_len]
    simp
  · rw [h1] at hr
    have h4 := Row.take (n := st.length + 1) (m := st.length) hr (by omega)
    rw [e0, List.take_append_of_le_length (by rw [nats_len]; simp), List.take_of_length_le (by rw [nats_len]; simp)] at h4
    exact h4
  · have : g2 = g := by cases hg2; rfl
    subst this
    exact hown
end
/-- A table's row, as plain numbers. -/
theorem TblAt.row {h : Array Obj} {S : Nat → Prop} {v : Value} {n : Nat} {t : List (List Nat)} (ht : TblAt h S v n t) : ∃ b, v = .slice (some ⟨b, 0, none⟩) n n ∧ S b ∧ ∀ a, a < n → ∃ ra rc, cel h b a = some (.slice ra (t.getD a []).length rc) ∧ (t.getD a []).length ≤ rc ∧
    (0 < (t.getD a []).length → ∃ b' o, ra = some ⟨b', o, none⟩ ∧ S b' ∧ ∀ j, j < (t.getD a []).length → cel h b' (o + j) = some (.int .i64 (((t.getD a []).getD j 0 : Nat) : Int))) := by
  obtain ⟨b, h1, h2, h3⟩ := ht
  refine ⟨b, h1, h2, fun a ha => ?_⟩
  obtain ⟨va, h4, h5⟩ := h3 a ha
  obtain ⟨ra, rc, h6, h7, h8⟩ := h5.nat
  subst h6
  exact ⟨ra, rc, h4, h7, h8⟩
/-- The rules' numbers in the tables are rules' numbers. -/
theorem idxH_lt (D : List Rl) (n k : Nat) (a : Nat) : ∀ r ∈ (idxH D n k).getD a [], r < k := by
  induction k with
  | zero =>
    intro r hr
    have : (idxH D n 0).getD a [] = [] := by
      simp only [idxH, List.getD_eq_getElem?_getD, List.getElem?_replicate]
      split <;> rfl
    rw [this] at hr
    cases hr
  | succ k ih =>
    intro r hr
    rw [idxH, addTo_getD] at hr
    split at hr
    · rcases List.mem_append.1 hr with h | h
      · have := ih r h; omega
      · have : r = k := by simpa using h
        omega
    · have := ih r hr; omega
theorem EV_callC {P : Program} {N : Nat} {E : Env} {w : World} {ty : TypeId} {g : Option (Nat × Bool)} {K : Env → World → Prop} {d : Nat} {fo : Operand} {args : List Operand} {ts : Array TypeId} {gf : FuncId} {caps args' : Array Value} {vs : List Value} {R : Value → World → Prop} (hd : Nat.ble (d + 1) N = true) (hf : evO E fo = some (.func (.func gf) #[] caps)) (ha : evL E args = some vs)
    (hc : callable P gf = true) (hargs : vs.toArray ++ caps = args') (hk : CallsS P gf args' w R) (h : ∀ v w2, R v w2 → K ((d, v) :: E) w2) :
    EV P N ⟨some d, .call { callee := .value fo, args := args.toArray, argTypes := ts }, ty, g⟩ E w K :=
  EV_callD hd hf ha hc (by rw [hargs]; exact hk) h
end Go.Proofs.Qxb6600121a
