/-
  THE OPERATIONS THAT WRITE, MAKE MEMORY OR CALL.
-/
import Derived.Test.Qxb6600121aVals
namespace Go.Proofs.Qxb6600121a
open Go

def _root_.Go.Value.oneC : Value → Bool
  | .agg _ => false
  | .tuple _ => false
  | _ => true
theorem Blk.fr {X : Nat → Prop} {w w' : World} {b : Nat} {te : TypeId} {cs : List Value} (hb : Blk w.heap b te cs) (hf : Fr X w w') (hx : ¬ X b) : Blk w'.heap b te cs :=
  (hf.block b hb.lt hx).trans hb
theorem cel_fr {X : Nat → Prop} {w w' : World} {b o : Nat} {v : Value} (hc : cel w.heap b o = some v) (hf : Fr X w w') (hx : ¬ X b) : cel w'.heap b o = some v := by
  unfold cel at *
  rw [hf.block b (cel_lt hc) hx]
  exact hc
structure Upd (w w' : World) (b : Nat) (te : TypeId) (cs : List Value) : Prop where
  fr : Fr (fun k => k = b) w w'
  blk : Blk w'.heap b te cs
  size : w'.heap.size = w.heap.size
structure Newb (w w' : World) (te : TypeId) (cs : List Value) : Prop where
  fr : Fr (fun _ => False) w w'
  blk : Blk w'.heap w.heap.size te cs
  size : w'.heap.size = w.heap.size + 1
theorem upd_setCell {w w' : World} (hw : Sim w w') {b o : Nat} {te : TypeId} {cs : List Value} (hb : Blk w.heap b te cs) (v : Value) : Upd w (w'.setCell ⟨b, o, none⟩ v) b te (cs.set o v) := by
  have hb' : w'.heap[b]? = some (.cells cs.toArray te (0, 0)) := by rw [hw.heap]; exact hb
  refine ⟨⟨hw.os, hw.tape, hw.output, by simp [World.setCell, hw.heap], fun k hk hne => ?_⟩, ?_, by simp [World.setCell, hw.heap]⟩
  · show ((w'.heap.modify b _))[k]? = _
    rw [Array.getElem?_modify, if_neg (fun e => hne e.symm), hw.heap]
  · show ((w'.heap.modify b _))[b]? = _
    rw [Array.getElem?_modify, if_pos rfl, hb']
    simp
theorem newb_alloc {w w' : World} (hw : Sim w w') (te : TypeId) (cs : Array Value) : Newb w (w'.alloc (.cells cs te)) te cs.toList := by
  refine ⟨⟨hw.os, hw.tape, hw.output, by simp [hw.heap], fun k hk _ => ?_⟩, ?_, by simp [hw.heap]⟩
  · show (w'.heap.push _)[k]? = _
    rw [Array.getElem?_push, hw.heap, if_neg (by omega)]
  · show (w'.heap.push _)[w.heap.size]? = _
    rw [Array.getElem?_push, hw.heap]
    simp
theorem oneC_cells {v : Value} (h : v.oneC = true) : v.cells = #[v] := by cases v <;> simp [Value.oneC] at h <;> rfl
theorem run_store1 {P : Program} {w : World} {b o : Nat} {te : TypeId} {cs : List Value} {v : Value} (hb : Blk w.heap b te cs) (ho : o < cs.length) (h1 : v.oneC = true) :
    (store ⟨b, o, none⟩ v).run P w = .ok () (w.setCell ⟨b, o, none⟩ v) := by
  have hc : w.cell? ⟨b, o, none⟩ = some cs[o] := by rw [cell?_cel, hb.cel]; simp [ho]
  have hf : w.frozen? ⟨b, o, none⟩ = false := by
    unfold Blk at hb
    simp [World.frozen?, hb]
  cases v <;> simp [Value.oneC] at h1 <;> simp [store, Sem.run, hc, hf]
def infoT (P : Program) (e : TypeId) : Option (Option Value × Nat × Nat) := (P.info? e).map fun i => (i.zero, i.size, i.bytes)
theorem infoT_spec {P : Program} {e : TypeId} {z : Value} {sz by' : Nat} (h : infoT P e = some (some z, sz, by')) : ∃ i, P.info? e = some i ∧ i.zero = some z ∧ i.size = sz ∧ i.bytes = by' := by
  unfold infoT at h
  cases hi : P.info? e with
  | none => simp [hi] at h
  | some i => simp [hi] at h; exact ⟨i, rfl, h.1, h.2.1, h.2.2⟩
theorem szT_of {P : Program} {e : TypeId} {z : Value} {sz by' : Nat} (h : infoT P e = some (some z, sz, by')) : szT P e = some sz := by
  obtain ⟨i, h1, _, h3, _⟩ := infoT_spec h
  simp [szT, h1, h3]
theorem zeroValue_run {P : Program} {e : TypeId} {z : Value} {sz by' : Nat} (h : infoT P e = some (some z, sz, by')) (w : World) : (zeroValue e).run P w = .ok z w := by
  obtain ⟨i, h1, h2, _, _⟩ := infoT_spec h
  simp [zeroValue, typeInfo, h1, h2]
section
variable {P : Program} {N : Nat} {E : Env} {w : World} {ty : TypeId} {g : Option (Nat × Bool)} {K : Env → World → Prop}
theorem EV_store {t : TypeId} {x y : Operand} {b o : Nat} {v : Value} {te : TypeId} {cs : List Value} (hx : evO E x = some (.pointer (some ⟨b, o, none⟩))) (hy : evO E y = some v) (h1 : v.oneC = true) (hs : szT P t = some 1)
    (hb : Blk w.heap b te cs) (ho : o < cs.length) (h : ∀ w2, Upd w w2 b te (cs.set o v) → K E w2) : EV P N ⟨none, .store t x y, ty, g⟩ E w K := by
  intro a w' Q hS hw
  have hsz' : w'.heap.size = w.heap.size := by rw [hw.heap]
  have hb' : Blk w'.heap b te cs := by rw [hw.heap]; exact hb
  have hr : (execOp a.eval (deS ⟨none, .store t x y, ty, g⟩)).run P w' = .ok .skip (w'.setCell ⟨b, o, none⟩ v) := by
    simp [execOp, deS, hS.ev hx, hS.ev hy, Instr.storeAt, Instr.sureAddr, storeVar, sizeOf_run hs, oneC_cells h1, storeCells, run_store1 hb' ho h1, Addr.add]
  unfold Oper.wp
  rw [hr]
  exact ⟨E, _, hS, Sim.refl _, h _ (upd_setCell hw hb v)⟩
theorem EV_store3 {t : TypeId} {x y : Operand} {b o : Nat} {v0 v1 v2 : Value} {te : TypeId} {cs : List Value} (hx : evO E x = some (.pointer (some ⟨b, o, none⟩))) (hy : evO E y = some (.agg #[v0, v1, v2])) (h0 : v0.oneC = true) (h1 : v1.oneC = true) (h2 : v2.oneC = true) (hs : szT P t = some 3)
    (hb : Blk w.heap b te cs) (ho : o + 2 < cs.length) (h : ∀ w2, Upd w w2 b te (((cs.set o v0).set (o + 1) v1).set (o + 2) v2) → K E w2) : EV P N ⟨none, .store t x y, ty, g⟩ E w K := by
  intro a w' Q hS hw
  have hsz' : w'.heap.size = w.heap.size := by rw [hw.heap]
  have hb' : Blk w'.heap b te cs := by rw [hw.heap]; exact hb
  have u1 := upd_setCell (Sim.refl w') (o := o) hb' v0
  have u2 := upd_setCell (Sim.refl _) (o := o + 1) u1.blk v1
  have u3 := upd_setCell (Sim.refl _) (o := o + 2) u2.blk v2
  have r1 := run_store1 (P := P) hb' (show o < cs.length by omega) h0
  have r2 := run_store1 (P := P) u1.blk (show o + 1 < (cs.set o v0).length by simp; omega) h1
  have r3 := run_store1 (P := P) u2.blk (show o + 2 < ((cs.set o v0).set (o + 1) v1).length by simp; omega) h2
  have hr : (execOp a.eval (deS ⟨none, .store t x y, ty, g⟩)).run P w' = .ok .skip (((w'.setCell ⟨b, o, none⟩ v0).setCell ⟨b, o + 1, none⟩ v1).setCell ⟨b, o + 2, none⟩ v2) := by
    simp [execOp, deS, hS.ev hx, hS.ev hy, Instr.storeAt, Instr.sureAddr, storeVar, sizeOf_run hs, Value.cells, storeCells, add_none, r1, r2, r3]
  unfold Oper.wp
  rw [hr]
  refine ⟨E, _, hS, Sim.refl _, h _ ⟨?_, u3.blk, by rw [u3.size, u2.size, u1.size, hw.heap]⟩⟩
  exact Fr.simL hw ((u1.fr.trans u2.fr).trans u3.fr)
theorem EV_alloc {d : Nat} {t : TypeId} {z : Value} {sz by' : Nat} (hd : Nat.ble (d + 1) N = true) (hi : infoT P t = some (some z, sz, by')) (h : ∀ w2, Newb w w2 t z.cells.toList → K ((d, .pointer (some ⟨w.heap.size, 0, none⟩)) :: E) w2) :
    EV P N ⟨some d, .alloc t, ty, g⟩ E w K := by
  intro a w' Q hS hw
  have hsz' : w'.heap.size = w.heap.size := by rw [hw.heap]
  have hr : (execOp a.eval (deS ⟨some d, .alloc t, ty, g⟩)).run P w' = .ok (.value (.pointer (some ⟨w.heap.size, 0, none⟩))) (w'.alloc (.cells z.cells t)) := by
    simp [execOp, deS, Instr.alloc, zeroValue_run hi, newVar, newRow, newObj, Sem.run, hsz']
  unfold Oper.wp
  rw [hr]
  exact ⟨_, _, hS.put (Nat.le_of_ble_eq_true hd) _, Sim.refl _, h _ (newb_alloc hw t z.cells)⟩
theorem EV_box {d : Nat} {t : TypeId} {x : Operand} {v : Value} (hd : Nat.ble (d + 1) N = true) (hx : evO E x = some v) (h : ∀ w2, Newb w w2 t v.cells.toList → K ((d, .pointer (some ⟨w.heap.size, 0, none⟩)) :: E) w2) :
    EV P N ⟨some d, .box t x, ty, g⟩ E w K := by
  intro a w' Q hS hw
  have hsz' : w'.heap.size = w.heap.size := by rw [hw.heap]
  have hr : (execOp a.eval (deS ⟨some d, .box t x, ty, g⟩)).run P w' = .ok (.value (.pointer (some ⟨w.heap.size, 0, none⟩))) (w'.alloc (.cells v.cells t)) := by
    simp [execOp, deS, Instr.box, hS.ev hx, newVar, newRow, newObj, Sem.run, hsz']
  unfold Oper.wp
  rw [hr]
  exact ⟨_, _, hS.put (Nat.le_of_ble_eq_true hd) _, Sim.refl _, h _ (newb_alloc hw t v.cells)⟩
/-- 'make([]T, l, c)' -/
theorem EV_makeC {d : Nat} {t e : TypeId} {x y : Operand} {l c : Nat} {z : Value} {sz by' : Nat} (hd : Nat.ble (d + 1) N = true) (hx : evO E x = some (.int .i64 (l : Nat))) (hy : evO E y = some (.int .i64 (c : Nat))) (he : elT P t = some e)
    (hi : infoT P e = some (some z, sz, by')) (hlc : l ≤ c) (hc : by' * c ≤ 281474976710656) (hc2 : c ≤ 9223372036854775807)
    (h : ∀ w2, Newb w w2 e ((Array.range (c * sz)).map (fun i => (if c * sz = 0 then #[] else z.cells)[i % (if c * sz = 0 then #[] else z.cells).size]!)).toList → K ((d, .slice (some ⟨w.heap.size, 0, none⟩) l c) :: E) w2) :
    EV P N ⟨some d, .makeSlice t x y, ty, g⟩ E w K := by
  intro a w' Q hS hw
  have hsz' : w'.heap.size = w.heap.size := by rw [hw.heap]
  obtain ⟨i, i1, i2, i3, i4⟩ := infoT_spec hi
  have wl : IntKind.i64.wrap (l : Int) = l := wrap_id (by omega) (by omega)
  have wc : IntKind.i64.wrap (c : Int) = c := wrap_id (by omega) (by omega)
  have n1 : ¬ (281474976710656 : Int) < (by' : Int) * (c : Int) := by
    have : ((by' * c : Nat) : Int) ≤ 281474976710656 := Int.ofNat_le.2 hc
    rw [Int.natCast_mul] at this
    omega
  have n2 : ¬ c < l := by omega
  have n3 : ¬ (c : Int) < 0 := by omega
  have n4 : ¬ (l : Int) < 0 := by omega
  have ar : ∀ (n : Nat) (u : World), (askRoom n).run P u = .ok () u := by
    intro n u
    unfold askRoom
    split <;> simp [mark, Sem.run]
  have hr : (execOp a.eval (deS ⟨some d, .makeSlice t x y, ty, g⟩)).run P w' = .ok (.value (.slice (some ⟨w.heap.size, 0, none⟩) l c))
      (w'.alloc (.cells ((Array.range (c * sz)).map (fun i => (if c * sz = 0 then #[] else z.cells)[i % (if c * sz = 0 then #[] else z.cells).size]!)) e)) := by
    by_cases hz : c * sz = 0
    · simp [execOp, deS, hS.ev hx, hS.ev hy, Instr.makeSlice, run_underlying (und_el he), asInt, asIntOf, typeInfo, i1, i4, wl, wc, n1, n2, n3, n4, ar, sizeOf_run (szT_of hi), hz, newRow, newObj, Sem.run, hsz']
    · simp [execOp, deS, hS.ev hx, hS.ev hy, Instr.makeSlice, run_underlying (und_el he), asInt, asIntOf, typeInfo, i1, i4, wl, wc, n1, n2, n3, n4, ar, sizeOf_run (szT_of hi), hz, zeroValue_run hi, newRow, newObj, Sem.run, hsz']
  unfold Oper.wp
  rw [hr]
  exact ⟨_, _, hS.put (Nat.le_of_ble_eq_true hd) _, Sim.refl _, h _ (newb_alloc hw e _)⟩
theorem EV_make1 {d : Nat} {t e : TypeId} {x y : Operand} {l c : Nat} {z : Value} {by' : Nat} (hd : Nat.ble (d + 1) N = true) (hx : evO E x = some (.int .i64 (l : Nat))) (hy : evO E y = some (.int .i64 (c : Nat))) (he : elT P t = some e)
    (hi : infoT P e = some (some z, 1, by')) (hz1 : z.oneC = true) (hlc : l ≤ c) (hc : by' * c ≤ 281474976710656) (hc2 : c ≤ 9223372036854775807)
    (h : ∀ w2, Newb w w2 e (List.replicate c z) → K ((d, .slice (some ⟨w.heap.size, 0, none⟩) l c) :: E) w2) :
    EV P N ⟨some d, .makeSlice t x y, ty, g⟩ E w K := by
  refine EV_makeC hd hx hy he hi hlc hc hc2 fun w2 hn => h w2 ?_
  have e1 : ((Array.range (c * 1)).map (fun i => (if c * 1 = 0 then #[] else z.cells)[i % (if c * 1 = 0 then #[] else z.cells).size]!)).toList = List.replicate c z := by
    simp only [Nat.mul_one, oneC_cells hz1]
    apply List.ext_getElem
    · simp
    · intro j h1 h2
      have hcz : c ≠ 0 := by intro e; subst e; simp at h1
      simp [hcz, Nat.mod_one]
  rw [← e1]
  exact hn
theorem EV_make3 {d : Nat} {t e : TypeId} {x y : Operand} {l c : Nat} {z0 z1 z2 : Value} {by' : Nat} (hd : Nat.ble (d + 1) N = true) (hx : evO E x = some (.int .i64 (l : Nat))) (hy : evO E y = some (.int .i64 (c : Nat))) (he : elT P t = some e)
    (hi : infoT P e = some (some (.agg #[z0, z1, z2]), 3, by')) (hlc : l ≤ c) (hc : by' * c ≤ 281474976710656) (hc2 : c ≤ 9223372036854775807)
    (h : ∀ w2 cs, Newb w w2 e cs → cs.length = c * 3 → K ((d, .slice (some ⟨w.heap.size, 0, none⟩) l c) :: E) w2) :
    EV P N ⟨some d, .makeSlice t x y, ty, g⟩ E w K :=
  EV_makeC hd hx hy he hi hlc hc hc2 fun w2 hn => h w2 _ hn (by simp)
/-- '[]T{v}', of one cell -/
theorem EV_lit1 {d : Nat} {t e : TypeId} {x : Operand} {v z : Value} {by' : Nat} (hd : Nat.ble (d + 1) N = true) (hx : evO E x = some v) (h1 : v.oneC = true) (he : elT P t = some e) (hi : infoT P e = some (some z, 1, by')) (hz1 : z.oneC = true)
    (h : ∀ w2, Newb w w2 e [v] → K ((d, .slice (some ⟨w.heap.size, 0, none⟩) 1 1) :: E) w2) :
    EV P N ⟨some d, .buildSlice t 1 #[(0, x)], ty, g⟩ E w K := by
  intro a w' Q hS hw
  have hsz' : w'.heap.size = w.heap.size := by rw [hw.heap]
  have hr : (execOp a.eval (deS ⟨some d, .buildSlice t 1 #[(0, x)], ty, g⟩)).run P w' = .ok (.value (.slice (some ⟨w.heap.size, 0, none⟩) 1 1)) (w'.alloc (.cells #[v] e)) := by
    have hrg : (Array.range 1) = #[0] := by decide
    simp [execOp, deS, hS.ev hx, Instr.buildSlice, run_underlying (und_el he), sizeOf_run (szT_of hi), zeroValue_run hi, hrg, oneC_cells hz1, oneC_cells h1, Instr.fill, newRow, newObj, Sem.run, hsz']
  unfold Oper.wp
  rw [hr]
  exact ⟨_, _, hS.put (Nat.le_of_ble_eq_true hd) _, Sim.refl _, h _ (newb_alloc hw e #[v])⟩
/-- '[]T{v}', of three cells -/
theorem EV_lit3 {d : Nat} {t e : TypeId} {x : Operand} {v0 v1 v2 z0 z1 z2 : Value} {by' : Nat} (hd : Nat.ble (d + 1) N = true) (hx : evO E x = some (.agg #[v0, v1, v2])) (he : elT P t = some e) (hi : infoT P e = some (some (.agg #[z0, z1, z2]), 3, by'))
    (h : ∀ w2, Newb w w2 e [v0, v1, v2] → K ((d, .slice (some ⟨w.heap.size, 0, none⟩) 1 1) :: E) w2) :
    EV P N ⟨some d, .buildSlice t 1 #[(0, x)], ty, g⟩ E w K := by
  intro a w' Q hS hw
  have hsz' : w'.heap.size = w.heap.size := by rw [hw.heap]
  have hr : (execOp a.eval (deS ⟨some d, .buildSlice t 1 #[(0, x)], ty, g⟩)).run P w' = .ok (.value (.slice (some ⟨w.heap.size, 0, none⟩) 1 1)) (w'.alloc (.cells #[v0, v1, v2] e)) := by
    have hrg : (Array.range 3) = #[0, 1, 2] := by decide
    simp [execOp, deS, hS.ev hx, Instr.buildSlice, run_underlying (und_el he), sizeOf_run (szT_of hi), zeroValue_run hi, Value.cells, hrg, Instr.fill, newRow, newObj, Sem.run, hsz']
  unfold Oper.wp
  rw [hr]
  exact ⟨_, _, hS.put (Nat.le_of_ble_eq_true hd) _, Sim.refl _, h _ (newb_alloc hw e #[v0, v1, v2])⟩
end

/-! ### A slice of the call's own -/
/-- 'v' is a slice at the head of a block of its own (or nil); its first n elements are xs. -/
def Row (h : Array Obj) (e : TypeId) (sz : Nat) (v : Value) (n : Nat) (xs : List Value) : Prop :=
  xs.length = n * sz ∧
  ((v = .slice none 0 0 ∧ n = 0) ∨
   ∃ g cap cur, v = .slice (some ⟨g, 0, none⟩) n cap ∧ h[g]? = some (.cells cur e (0, 0)) ∧ n ≤ cap ∧ cap ≤ maxLen ∧ cur.size = cap * sz ∧ cur.toList.take (n * sz) = xs)
theorem Row.owns {w : World} {e : TypeId} {sz : Nat} {v : Value} {n : Nat} {xs : List Value} (h : Row w.heap e sz v n xs) : w.ownsRow 0 e sz v n xs := by
  refine ⟨h.1, ?_⟩
  rcases h.2 with h | ⟨g, cap, cur, h1, h2⟩
  · exact .inl h
  · exact .inr ⟨g, cap, cur, h1, Nat.zero_le _, h2⟩
theorem Row.of_owns {w : World} {e : TypeId} {sz : Nat} {v : Value} {n : Nat} {xs : List Value} (h : w.ownsRow 0 e sz v n xs) : Row w.heap e sz v n xs := by
  refine ⟨h.1, ?_⟩
  rcases h.2 with h | ⟨g, cap, cur, h1, _, h2⟩
  · exact .inl h
  · exact .inr ⟨g, cap, cur, h1, h2⟩
theorem Row.fr {X : Nat → Prop} {w w' : World} {e : TypeId} {sz : Nat} {v : Value} {n : Nat} {xs : List Value} (h : Row w.heap e sz v n xs) (hf : Fr X w w') (hx : ∀ b, v.ownBlock = some b → ¬ X b) : Row w'.heap e sz v n xs := by
  refine ⟨h.1, ?_⟩
  rcases h.2 with h | ⟨g, cap, cur, h1, h2, h3⟩
  · exact .inl h
  · subst h1
    exact .inr ⟨g, cap, cur, rfl, by rw [hf.block g (Array.getElem?_eq_some_iff.1 h2).1 (hx g rfl)]; exact h2, h3⟩
theorem Row.lt {h : Array Obj} {e : TypeId} {sz : Nat} {v : Value} {n : Nat} {xs : List Value} (hr : Row h e sz v n xs) {b : Nat} (hb : v.ownBlock = some b) : b < h.size := by
  rcases hr.2 with ⟨rfl, _⟩ | ⟨g, cap, cur, rfl, h2, _⟩
  · simp [Value.ownBlock] at hb
  · simp [Value.ownBlock] at hb; subst hb; exact (Array.getElem?_eq_some_iff.1 h2).1
theorem Row.nil (h : Array Obj) (e : TypeId) (sz : Nat) : Row h e sz (.slice none 0 0) 0 [] := ⟨by simp, .inl ⟨rfl, rfl⟩⟩
theorem Row.of_blk {h : Array Obj} {e : TypeId} {sz g n c : Nat} {cs : List Value} (hb : Blk h g e cs) (hn : n ≤ c) (hc : c ≤ maxLen) (hl : cs.length = c * sz) : Row h e sz (.slice (some ⟨g, 0, none⟩) n c) n (cs.take (n * sz)) := by
  refine ⟨?_, .inr ⟨g, c, cs.toArray, rfl, hb, hn, hc, by simpa using hl, by simp⟩⟩
  rw [List.length_take, hl]
  exact Nat.min_eq_left (Nat.mul_le_mul_right _ hn)
/-- A row that is not empty: where it lies. -/
theorem Row.pos {h : Array Obj} {e : TypeId} {sz : Nat} {v : Value} {n : Nat} {xs : List Value} (hr : Row h e sz v n xs) (hn : 0 < n) :
    ∃ g cap, v = .slice (some ⟨g, 0, none⟩) n cap ∧ n ≤ cap ∧ ∀ j u, xs[j]? = some u → cel h g j = some u := by
  rcases hr.2 with ⟨_, h0⟩ | ⟨g, cap, cur, h1, h2, h3, h4, h5, h6⟩
  · omega
  · refine ⟨g, cap, h1, h3, fun j u hu => ?_⟩
    rw [← h6, List.getElem?_take] at hu
    split at hu
    · simpa [cel, h2] using hu
    · cases hu
/-- Its form, empty or not. -/
theorem Row.form {h : Array Obj} {e : TypeId} {sz : Nat} {v : Value} {n : Nat} {xs : List Value} (hr : Row h e sz v n xs) : ∃ a cap, v = .slice a n cap ∧ n ≤ cap := by
  rcases hr.2 with ⟨rfl, rfl⟩ | ⟨g, cap, cur, h1, h2, h3, _⟩
  · exact ⟨none, 0, rfl, Nat.le_refl _⟩
  · exact ⟨_, cap, h1, h3⟩
/-- The first m of it. -/
theorem Row.take {h : Array Obj} {e : TypeId} {sz : Nat} {a : Option Addr} {cap n : Nat} {xs : List Value} (hr : Row h e sz (.slice a n cap) n xs) {m : Nat} (hm : m ≤ n) : Row h e sz (.slice a m cap) m (xs.take (m * sz)) := by
  rcases hr.2 with ⟨h0, rfl⟩ | ⟨g, cap', cur, h1, h2, h3, h4, h5, h6⟩
  · have : m = 0 := by omega
    subst this
    cases h0
    exact ⟨by simp, .inl ⟨rfl, rfl⟩⟩
  · cases h1
    refine ⟨?_, .inr ⟨g, cap, cur, rfl, h2, by omega, h4, h5, ?_⟩⟩
    · rw [List.length_take, hr.1]; exact Nat.min_eq_left (Nat.mul_le_mul_right _ hm)
    · rw [← h6, List.take_take, Nat.min_eq_left (Nat.mul_le_mul_right _ hm)]
section
variable {P : Program} {N : Nat} {E : Env} {w : World} {ty : TypeId} {g : Option (Nat × Bool)} {K : Env → World → Prop}
theorem EV_append {d : Nat} {t e : TypeId} {s x : Operand} {v z : Value} {sz by' n m c ab ao : Nat} {xs news : List Value} (hd : Nat.ble (d + 1) N = true) (hs : evO E s = some v) (hx : evO E x = some (.slice (some ⟨ab, ao, none⟩) m c))
    (he : elT P t = some e) (hi : infoT P e = some (some z, sz, by')) (hz : z.cells.size = sz) (hsz : 0 < sz) (hr : Row w.heap e sz v n xs) (hl : news.length = m * sz) (hnews : ∀ j u, news[j]? = some u → cel w.heap ab (ao + j) = some u)
    (h1 : ∀ u ∈ news, u.oneC = true) (hb : (n + m) * by' ≤ 140737488355328) (hn : n + m ≤ 140737488355328)
    (h : ∀ v' w2, Row w2.heap e sz v' (n + m) (xs ++ news) → Fr (fun k => v.ownBlock = some k) w w2 → (v'.ownBlock = v.ownBlock ∨ v'.ownBlock = some w.heap.size) → K ((d, v') :: E) w2) :
    EV P N ⟨some d, .call { callee := .builtin .append, args := #[s, x], argTypes := #[t, t] }, ty, g⟩ E w K := by
  intro a w' Q hS hw
  have hsz' : w'.heap.size = w.heap.size := by rw [hw.heap]
  obtain ⟨i, i1, i2, i3, i4⟩ := infoT_spec hi
  have hr' : w'.ownsRow 0 e sz v n xs := Row.owns (by rw [hw.heap]; exact hr)
  have hone : ∀ u ∈ news, u.oneCell' = true := by
    intro u hu
    have := h1 u hu
    cases u <;> simp [Value.oneC] at this <;> rfl
  obtain ⟨v', w2, hrun, hown, hgr, _, hat⟩ := run_append_own_at (P := P) w' 0 t ty e i z sz by' (und_el he) i1 i2 i3 i4 hz hsz v n xs hr' ⟨ab, ao, none⟩ m c news hl
    (fun j u hu => by rw [add_none, cell?_cel, hw.heap]; exact hnews j u hu) hone (by unfold maxLen; omega) hb (Nat.zero_le _)
  have hr2 : (execOp a.eval (deS ⟨some d, .call { callee := .builtin .append, args := #[s, x], argTypes := #[t, t] }, ty, g⟩)).run P w' = .ok (.value v') w2 := by
    simp [execOp, deS, resolve, invoke, builtin, hS.ev hs, hS.ev hx, hrun]
  unfold Oper.wp
  rw [hr2]
  refine ⟨_, w2, hS.put (Nat.le_of_ble_eq_true hd) _, Sim.refl _, h v' w2 (Row.of_owns hown) ?_ (by rw [← hw.heap]; exact hat)⟩
  refine Fr.simL hw ⟨hgr.os, hgr.tape, hgr.output, hgr.size, fun k hk hx => hgr.block k hk fun e => hx e.symm⟩
def callable (P : Program) (g : FuncId) : Bool :=
  match P.funcs[g]? with
  | some fn => fn.body.isSome && !(fn.name == "runtime.NumGoroutine")
  | none => false
theorem callFunc_run {P : Program} {g : FuncId} (h : callable P g = true) (args : Array Value) (w : World) : (callFunc g args).run P w = .ok (.enter g args) w := by
  unfold callable at h
  cases hf : P.funcs[g]? with
  | none => simp [hf] at h
  | some fn =>
    simp [hf] at h
    obtain ⟨hb, hn⟩ := h
    have hb' : ¬ fn.body = none := by intro e; rw [e] at hb; cases hb
    simp [callFunc, program, Sem.run, hf, hn, hb']
def evL (E : Env) : List Operand → Option (List Value)
  | [] => some []
  | x :: xs => match evO E x, evL E xs with
    | some v, some vs => some (v :: vs)
    | _, _ => none
theorem Sat.evL {a : Act} (hS : Sat N a E) : ∀ {xs : List Operand} {vs : List Value}, Qxb6600121a.evL E xs = some vs → xs.map a.eval = vs
  | [], vs, h => by simp [Qxb6600121a.evL] at h; simp [h]
  | x :: xs, vs, h => by
    simp only [Qxb6600121a.evL] at h
    cases h1 : evO E x <;> cases h2 : Qxb6600121a.evL E xs <;> simp [h1, h2] at h
    subst h
    simp [hS.ev h1, Sat.evL hS h2]
theorem EV_call {d : Option Nat} {fo : Operand} {args : List Operand} {ts : Array TypeId} {gf : FuncId} {caps : Array Value} {vs : List Value} {R : Value → World → Prop} (hf : evO E fo = some (.func (.func gf) #[] caps)) (ha : evL E args = some vs)
    (hc : callable P gf = true) (hd : ∀ i, d = some i → Nat.ble (i + 1) N = true) (hk : CallsS P gf (vs.toArray ++ caps) w R)
    (h : ∀ v w2, R v w2 → K (match d with | some i => (i, v) :: E | none => E) w2) :
    EV P N ⟨d, .call { callee := .value fo, args := args.toArray, argTypes := ts }, ty, g⟩ E w K := by
  intro a w' Q hS hw
  have hsz' : w'.heap.size = w.heap.size := by rw [hw.heap]
  have hr : (execOp a.eval (deS ⟨d, .call { callee := .value fo, args := args.toArray, argTypes := ts }, ty, g⟩)).run P w' = .ok (.enter gf (vs.toArray ++ caps)) w' := by
    have e1 := hS.evL ha
    simp [execOp, deS, resolve, Deferred.ofValue, invoke, hS.ev hf, e1, callFunc_run hc]
  unfold Oper.wp
  rw [hr]
  refine (hk w' hw).mono ?_
  rintro e w2 ⟨v, rfl, w3, hs, hR⟩
  cases d with
  | none => exact ⟨E, w3, hS, hs, h v w3 hR⟩
  | some i => exact ⟨_, w3, hS.put (Nat.le_of_ble_eq_true (hd i rfl)) v, hs, h v w3 hR⟩
end
end Go.Proofs.Qxb6600121a
