/-
  THE RULES AS PLAIN NUMBERS; THE INDEX TABLES, as functions, and in memory.
-/
import Derived.Test.Qxb6600121aData
namespace Go.Proofs.Qxb6600121a
open Go

structure Rl where
  head : Nat
  all : List Nat
  unl : List Nat
def rl0 : Rl := ⟨0, [], []⟩
def casts (xs : List Nat) : List Int := xs.map (fun n : Nat => (n : Int))
def Rl.rd (r : Rl) : RD := ⟨(r.head : Int), casts r.all, casts r.unl⟩
def RD.rl (r : RD) : Rl := ⟨r.head.toNat, r.all.map Int.toNat, r.unl.map Int.toNat⟩
/-- Every atom named is one of 0 .. n-1. -/
def Rl.ok (n : Nat) (r : Rl) : Prop := r.head < n ∧ (∀ a ∈ r.all, a < n) ∧ ∀ a ∈ r.unl, a < n
def Okay (n : Nat) (D : List Rl) : Prop := ∀ r ∈ D, r.ok n
theorem casts_len (xs : List Nat) : (casts xs).length = xs.length := by simp [casts]
theorem casts_getD (xs : List Nat) (j : Nat) : (casts xs).getD j 0 = ((xs.getD j 0 : Nat) : Int) := by
  simp only [casts, List.getD_eq_getElem?_getD, List.getElem?_map]
  cases xs[j]? <;> simp
theorem casts_toNat {xs : List Int} (h : ∀ j, j < xs.length → 0 ≤ xs.getD j 0) : casts (xs.map Int.toNat) = xs := by
  apply List.ext_getElem
  · simp [casts]
  · intro j h1 h2
    have := h j h2
    simp [casts]
    simp [h2] at this
    omega
theorem rd_rl {n : Nat} {r : RD} (h : InR n r) : r.rl.rd = r := by
  obtain ⟨h0, h1, h2, h3⟩ := h
  cases r with
  | mk hd al un =>
    have e0 : ((hd.toNat : Nat) : Int) = hd := by simp at h0; omega
    have e1 := casts_toNat (xs := al) (fun j hj => (h2 j hj).1)
    have e2 := casts_toNat (xs := un) (fun j hj => (h3 j hj).1)
    simp [RD.rl, Rl.rd, e0, e1, e2]
theorem ok_rl {n : Nat} {r : RD} (h : InR n r) : r.rl.ok n := by
  obtain ⟨h0, h1, h2, h3⟩ := h
  refine ⟨by show r.head.toNat < n; omega, fun a ha => ?_, fun a ha => ?_⟩
  · obtain ⟨x, hx, rfl⟩ := List.mem_map.1 ha
    obtain ⟨j, hj, rfl⟩ := List.mem_iff_getElem.1 hx
    have := h2 j hj
    simp [hj] at this
    omega
  · obtain ⟨x, hx, rfl⟩ := List.mem_map.1 ha
    obtain ⟨j, hj, rfl⟩ := List.mem_iff_getElem.1 hx
    have := h3 j hj
    simp [hj] at this
    omega
theorem getD_mem {α : Type} {l : List α} {i : Nat} (d : α) (h : i < l.length) : l.getD i d ∈ l := by
  rw [List.getD_eq_getElem?_getD, List.getElem?_eq_getElem h]
  exact List.getElem_mem h
/-- What came in, all in range, is the picture of plain numbers. -/
theorem plain_of {n : Nat} {rs : List RD} (h : ∀ i, i < rs.length → InR n (rs.getD i rd0)) : ∃ D : List Rl, rs = D.map Rl.rd ∧ Okay n D := by
  have hm : ∀ r ∈ rs, InR n r := by
    intro r hr
    obtain ⟨j, hj, rfl⟩ := List.mem_iff_getElem.1 hr
    have := h j hj
    simpa [hj] using this
  refine ⟨rs.map RD.rl, ?_, ?_⟩
  · rw [List.map_map]
    have : ∀ r ∈ rs, (Rl.rd ∘ RD.rl) r = r := fun r hr => rd_rl (hm r hr)
    rw [List.map_congr_left this]
    simp
  · intro r hr
    obtain ⟨x, hx, rfl⟩ := List.mem_map.1 hr
    exact ok_rl (hm x hx)
theorem rd_getD (D : List Rl) (i : Nat) : (D.map Rl.rd).getD i rd0 = (D.getD i rl0).rd := by
  simp only [List.getD_eq_getElem?_getD, List.getElem?_map]
  cases D[i]? <;> rfl

/-! ### Reading, as plain numbers -/
theorem IntsAt.nat {h : Array Obj} {B : Nat → Prop} {v : Value} {xs : List Nat} (hr : IntsAt h B v (casts xs)) :
    ∃ a c, v = .slice a xs.length c ∧ xs.length ≤ c ∧ (0 < xs.length → ∃ b o, a = some ⟨b, o, none⟩ ∧ B b ∧ ∀ j, j < xs.length → cel h b (o + j) = some (.int .i64 ((xs.getD j 0 : Nat) : Int))) := by
  obtain ⟨a, c, h1, h2, h3, h4⟩ := hr
  rw [casts_len] at h1 h2 h4
  refine ⟨a, c, h1, h2, fun hp => ?_⟩
  obtain ⟨b, o, h5, h6, h7⟩ := h4 hp
  exact ⟨b, o, h5, h6, fun j hj => by rw [← casts_getD]; exact h7 j hj⟩
theorem RulesAt.nat {h : Array Obj} {B : Nat → Prop} {v : Value} {D : List Rl} (hr : RulesAt h B v (D.map Rl.rd)) :
    ∃ a c, v = .slice a D.length c ∧ D.length ≤ c ∧ (0 < D.length → ∃ b o, a = some ⟨b, o, none⟩ ∧ B b ∧ ∀ i, i < D.length →
      cel h b (o + i * 3) = some (.int .i64 (((D.getD i rl0).head : Nat) : Int)) ∧ ∃ va vu, cel h b (o + i * 3 + 1) = some va ∧ cel h b (o + i * 3 + 2) = some vu ∧ IntsAt h B va (casts (D.getD i rl0).all) ∧ IntsAt h B vu (casts (D.getD i rl0).unl)) := by
  obtain ⟨a, c, h1, h2, h3, h4⟩ := hr
  rw [List.length_map] at h1 h2 h4
  refine ⟨a, c, h1, h2, fun hp => ?_⟩
  obtain ⟨b, o, h5, h6, h7⟩ := h4 hp
  refine ⟨b, o, h5, h6, fun i hi => ?_⟩
  have := h7 i hi
  rw [rd_getD] at this
  exact this

/-! ### The index tables, as functions -/
def addTo (t : List (List Nat)) (a r : Nat) : List (List Nat) := t.set a (t.getD a [] ++ [r])
def addAll (t : List (List Nat)) (r : Nat) (qs : List Nat) : List (List Nat) := qs.foldl (fun t a => addTo t a r) t
def idxH (D : List Rl) (n : Nat) : Nat → List (List Nat)
  | 0 => List.replicate n []
  | k + 1 => addTo (idxH D n k) (D.getD k rl0).head k
def idxU (D : List Rl) (n : Nat) : Nat → List (List Nat)
  | 0 => List.replicate n []
  | k + 1 => addAll (idxU D n k) k (D.getD k rl0).all
def idxE (D : List Rl) (n : Nat) : Nat → List (List Nat)
  | 0 => List.replicate n []
  | k + 1 => addAll (idxE D n k) k (D.getD k rl0).unl
theorem addTo_len (t : List (List Nat)) (a r : Nat) : (addTo t a r).length = t.length := by simp [addTo]
theorem addAll_len (t : List (List Nat)) (r : Nat) (qs : List Nat) : (addAll t r qs).length = t.length := by
  unfold addAll
  induction qs generalizing t with
  | nil => rfl
  | cons a qs ih => simp only [List.foldl_cons]; rw [ih, addTo_len]
theorem idxH_len (D : List Rl) (n k : Nat) : (idxH D n k).length = n := by
  induction k with
  | zero => simp [idxH]
  | succ k ih => simp [idxH, addTo_len, ih]
theorem idxU_len (D : List Rl) (n k : Nat) : (idxU D n k).length = n := by
  induction k with
  | zero => simp [idxU]
  | succ k ih => simp [idxU, addAll_len, ih]
theorem idxE_len (D : List Rl) (n k : Nat) : (idxE D n k).length = n := by
  induction k with
  | zero => simp [idxE]
  | succ k ih => simp [idxE, addAll_len, ih]
theorem addAll_take_succ (t : List (List Nat)) (r : Nat) (qs : List Nat) (j : Nat) (h : j < qs.length) : addAll t r (qs.take (j + 1)) = addTo (addAll t r (qs.take j)) (qs.getD j 0) r := by
  unfold addAll
  rw [List.take_succ_eq_append_getElem h, List.foldl_append]
  simp [h]
theorem addTo_getD (t : List (List Nat)) (a r b : Nat) : (addTo t a r).getD b [] = if a = b ∧ a < t.length then t.getD b [] ++ [r] else t.getD b [] := by
  unfold addTo
  simp only [List.getD_eq_getElem?_getD, List.getElem?_set]
  split
  · subst_vars
    split
    · simp_all
    · rename_i h; simp [h]
  · rename_i h; simp [h]
/-- No row is longer than c. -/
def Short (t : List (List Nat)) (c : Nat) : Prop := ∀ a, (t.getD a []).length ≤ c
theorem Short.add {t : List (List Nat)} {c : Nat} (h : Short t c) (a r : Nat) : Short (addTo t a r) (c + 1) := by
  intro b
  rw [addTo_getD]
  have := h b
  split
  · simp; exact this
  · omega
theorem Short.mono {t : List (List Nat)} {c d : Nat} (h : Short t c) (hc : c ≤ d) : Short t d := fun a => Nat.le_trans (h a) hc
theorem Short.all {t : List (List Nat)} {c : Nat} (h : Short t c) (r : Nat) (qs : List Nat) : Short (addAll t r qs) (c + qs.length) := by
  unfold addAll
  induction qs generalizing t c with
  | nil => exact h
  | cons a qs ih =>
    simp only [List.foldl_cons]
    have := ih (h.add a r)
    exact this.mono (by simp; omega)
theorem short_rep (n c : Nat) : Short (List.replicate n []) c := by
  intro a
  simp only [List.getD_eq_getElem?_getD, List.getElem?_replicate]
  split <;> simp
theorem idxH_short (D : List Rl) (n k : Nat) : Short (idxH D n k) k := by
  induction k with
  | zero => exact short_rep n 0
  | succ k ih => exact ih.add _ _
theorem totD (D : List Rl) (k : Nat) (h : k < D.length) : tot ((D.map Rl.rd).take (k + 1)) = tot ((D.map Rl.rd).take k) + (D.getD k rl0).all.length + (D.getD k rl0).unl.length := by
  rw [tot_take_succ _ _ (by simpa using h), rd_getD]
  simp [Rl.rd, casts_len]
theorem idxU_short (D : List Rl) (n k : Nat) (h : k ≤ D.length) : Short (idxU D n k) (tot ((D.map Rl.rd).take k)) := by
  induction k with
  | zero => exact short_rep n _
  | succ k ih =>
    have h1 := (ih (by omega)).all k (D.getD k rl0).all
    exact h1.mono (by rw [totD D k (by omega)]; omega)
theorem idxE_short (D : List Rl) (n k : Nat) (h : k ≤ D.length) : Short (idxE D n k) (tot ((D.map Rl.rd).take k)) := by
  induction k with
  | zero => exact short_rep n _
  | succ k ih =>
    have h1 := (ih (by omega)).all k (D.getD k rl0).unl
    exact h1.mono (by rw [totD D k (by omega)]; omega)

/-! ### Three tables in memory, while they grow. 'own': whose row a block is. -/
def nilS : Value := .slice none 0 0
/-- Table number i: its outer block, its rows. -/
structure Tab (h : Array Obj) (own : Nat → Nat × Nat) (lo n i b : Nat) (t : List (List Nat)) (vs : List Value) : Prop where
  blk : Blk h b 27 vs
  len : vs.length = n
  tlen : t.length = n
  row : ∀ a, a < n → Row h 3 1 (vs.getD a nilS) (t.getD a []).length (nats (t.getD a []))
  own : ∀ a, a < n → ∀ g, (vs.getD a nilS).ownBlock = some g → own g = (i, a) ∧ lo ≤ g
theorem Tab.fr {X : Nat → Prop} {w w' : World} {own own' : Nat → Nat × Nat} {lo n i b : Nat} {t : List (List Nat)} {vs : List Value} (h : Tab w.heap own lo n i b t vs) (hf : Fr X w w') (hb : ¬ X b)
    (hX : ∀ g a, g < w.heap.size → lo ≤ g → own g = (i, a) → ¬ X g) (hown : ∀ g, g < w.heap.size → own' g = own g) : Tab w'.heap own' lo n i b t vs := by
  refine ⟨h.blk.fr hf hb, h.len, h.tlen, fun a ha => (h.row a ha).fr hf fun g hg => ?_, fun a ha g hg => ?_⟩
  · have := h.own a ha g hg
    exact hX g a ((h.row a ha).lt hg) this.2 this.1
  · have := h.own a ha g hg
    rw [hown g ((h.row a ha).lt hg)]
    exact this
theorem news1 {h : Array Obj} {b te : Nat} {v : Value} (hb : Blk h b te [v]) : ∀ j u, [v][j]? = some u → cel h b (0 + j) = some u := by
  intro j u hu
  rw [Nat.zero_add, hb.cel]
  exact hu
theorem one1 {v : Value} (h : v.oneC = true) : ∀ u ∈ [v], u.oneC = true := by
  intro u hu
  rw [List.mem_singleton] at hu
  rw [hu]
  exact h
/-- 't[a] = append(t[a], r)': what becomes of this table. -/
theorem Tab.push {w1 w2 w3 w4 : World} {own : Nat → Nat × Nat} {lo n i b a r : Nat} {t : List (List Nat)} {vs : List Value} {v' : Value} (h : Tab w1.heap own lo n i b t vs) (ha : a < n) (hlo : lo ≤ w1.heap.size) (hblo : b < lo)
    (h12 : Newb w1 w2 3 [.int .i64 (r : Int)]) (hrow : Row w3.heap 3 1 v' ((t.getD a []).length + 1) (nats (t.getD a []) ++ [.int .i64 (r : Int)])) (h23 : Fr (fun k => (vs.getD a nilS).ownBlock = some k) w2 w3)
    (hat : v'.ownBlock = (vs.getD a nilS).ownBlock ∨ v'.ownBlock = some w2.heap.size) (h34 : Upd w3 w4 b 27 (vs.set a v')) :
    Tab w4.heap (fun g => if g < w1.heap.size then own g else (i, a)) lo n i b (addTo t a r) (vs.set a v') := by
  have hs2 := h12.size
  have hs3 := h23.size
  have hb1 := h.blk.lt
  refine ⟨h34.blk, by simp [h.len], by rw [addTo_len]; exact h.tlen, fun c hc => ?_, fun c hc g hg => ?_⟩
  · rw [addTo_getD]
    by_cases hac : a = c
    · subst hac
      rw [if_pos ⟨rfl, by rw [h.tlen]; exact ha⟩]
      have e1 : (vs.set a v').getD a nilS = v' := by simp [List.getD_eq_getElem?_getD, h.len, ha]
      rw [e1]
      have e2 : nats (t.getD a [] ++ [r]) = nats (t.getD a []) ++ [.int .i64 (r : Int)] := by simp [nats]
      rw [e2, List.length_append]
      refine hrow.fr h34.fr ?_
      intro g hg heq
      subst heq
      rcases hat with h5 | h5
      · rw [h5] at hg
        have := (h.own a ha _ hg).2
        omega
      · rw [h5] at hg
        cases hg
        omega
    · rw [if_neg (by omega)]
      have e1 : (vs.set a v').getD c nilS = vs.getD c nilS := by simp [List.getD_eq_getElem?_getD, List.getElem?_set_ne hac]
      rw [e1]
      refine (((h.row c hc).fr h12.fr (fun _ _ h => h)).fr h23 ?_).fr h34.fr ?_
      · intro g hg hg2
        have k1 := (h.own c hc g hg).1
        have k2 := (h.own a ha g hg2).1
        rw [k1] at k2
        cases k2
        exact hac rfl
      · intro g hg heq
        have := (h.own c hc g hg).2
        omega
  · by_cases hac : a = c
    · subst hac
      have e1 : (vs.set a v').getD a nilS = v' := by simp [List.getD_eq_getElem?_getD, h.len, ha]
      rw [e1] at hg
      rcases hat with h5 | h5
      · rw [h5] at hg
        have k := h.own a ha g hg
        have kl := (h.row a ha).lt hg
        simp [kl, k]
      · rw [h5] at hg
        cases hg
        have : ¬ w2.heap.size < w1.heap.size := by omega
        simp [this]
        omega
    · have e1 : (vs.set a v').getD c nilS = vs.getD c nilS := by simp [List.getD_eq_getElem?_getD, List.getElem?_set_ne hac]
      rw [e1] at hg
      have k := h.own c hc g hg
      have kl := (h.row c hc).lt hg
      simp [kl, k]
/-- .. and of another table. -/
theorem Tab.push_other {w1 w2 w3 w4 : World} {own : Nat → Nat × Nat} {lo n i b a r j c : Nat} {t t' : List (List Nat)} {vs vs' : List Value} {v' : Value} (h : Tab w1.heap own lo n i b t vs) (h' : Tab w1.heap own lo n j c t' vs') (hij : i ≠ j) (hbc : b ≠ c) (ha : a < n)
    (hcl : c < lo) (hbl : b < lo) (h12 : Newb w1 w2 3 [.int .i64 (r : Int)]) (h23 : Fr (fun k => (vs.getD a nilS).ownBlock = some k) w2 w3) (h34 : Upd w3 w4 b 27 (vs.set a v')) :
    Tab w4.heap (fun g => if g < w1.heap.size then own g else (i, a)) lo n j c t' vs' := by
  have hs2 := h12.size
  have hs3 := h23.size
  have hf : Fr (fun k => (vs.getD a nilS).ownBlock = some k ∨ k = b) w1 w4 :=
    ((h12.fr.mono (fun _ _ h => h.elim)).trans (h23.mono (fun _ _ h => .inl h))).trans (h34.fr.mono (fun _ _ h => .inr h))
  refine h'.fr hf ?_ ?_ ?_
  · rintro (hc | hc)
    · have := (h.own a ha _ hc).2; omega
    · omega
  · intro g x hg hl ho hX
    rcases hX with hX | hX
    · have := (h.own a ha g hX).1
      rw [this] at ho
      cases ho
      exact hij rfl
    · omega
  · intro g hg
    simp [hg]

theorem Tab.cel {h : Array Obj} {own : Nat → Nat × Nat} {lo n i b : Nat} {t : List (List Nat)} {vs : List Value} (ht : Tab h own lo n i b t vs) {a : Nat} (ha : a < n) : Qxb6600121a.cel h b a = some (vs.getD a nilS) := by
  rw [ht.blk.cel]
  simp [List.getD_eq_getElem?_getD, ht.len, ha]
theorem Tab.fresh {h : Array Obj} {own : Nat → Nat × Nat} {lo n i b : Nat} (hb : Blk h b 27 (List.replicate n nilS)) : Tab h own lo n i b (List.replicate n []) (List.replicate n nilS) := by
  have e1 : ∀ a, (List.replicate n nilS).getD a nilS = nilS := by
    intro a
    simp only [List.getD_eq_getElem?_getD, List.getElem?_replicate]
    split <;> rfl
  have e2 : ∀ a, (List.replicate n ([] : List Nat)).getD a [] = [] := by
    intro a
    simp only [List.getD_eq_getElem?_getD, List.getElem?_replicate]
    split <;> rfl
  refine ⟨hb, by simp, by simp, fun a _ => ?_, fun a _ g hg => ?_⟩
  · rw [e1, e2]; exact Row.nil _ _ _
  · rw [e1] at hg; cases hg
/-- The three of them. -/
def Tabs (h : Array Obj) (s n : Nat) (t1 t2 t3 : List (List Nat)) : Prop :=
  ∃ own vs1 vs2 vs3, Tab h own (s + 3) n 0 s t1 vs1 ∧ Tab h own (s + 3) n 1 (s + 1) t2 vs2 ∧ Tab h own (s + 3) n 2 (s + 2) t3 vs3

/-! ### A table that is only read, in blocks of S -/
def TblAt (h : Array Obj) (S : Nat → Prop) (v : Value) (n : Nat) (t : List (List Nat)) : Prop :=
  ∃ b, v = .slice (some ⟨b, 0, none⟩) n n ∧ S b ∧ ∀ a, a < n → ∃ va, cel h b a = some va ∧ IntsAt h S va (casts (t.getD a []))
theorem Row.intsAt {h : Array Obj} {S : Nat → Prop} {v : Value} {xs : List Nat} (hr : Row h 3 1 v xs.length (nats xs)) (hS : ∀ g, v.ownBlock = some g → S g) : IntsAt h S v (casts xs) := by
  rcases hr.2 with ⟨rfl, h0⟩ | ⟨g, cap, cur, rfl, h2, h3, h4, h5, h6⟩
  · exact ⟨none, 0, by rw [casts_len, h0], by rw [casts_len]; omega, fun _ => by rw [casts_len]; exact h0, fun hp => by rw [casts_len] at hp; omega⟩
  · refine ⟨some ⟨g, 0, none⟩, cap, by rw [casts_len], by rw [casts_len]; exact h3, fun h => (by cases h), fun hp => ⟨g, 0, rfl, hS g rfl, fun j hj => ?_⟩⟩
    rw [casts_len] at hj
    have h7 : (nats xs)[j]? = some (.int .i64 ((xs.getD j 0 : Nat) : Int)) := nats_get hj
    rw [← h6, List.getElem?_take] at h7
    rw [casts_getD, Nat.zero_add]
    split at h7
    · simpa [cel, h2] using h7
    · cases h7
theorem Tab.at {h : Array Obj} {own : Nat → Nat × Nat} {lo n i b : Nat} {t : List (List Nat)} {vs : List Value} (ht : Tab h own lo n i b t vs) {S : Nat → Prop} (hb : S b) (hS : ∀ g, lo ≤ g → g < h.size → S g) : TblAt h S (.slice (some ⟨b, 0, none⟩) n n) n t := by
  refine ⟨b, rfl, hb, fun a ha => ⟨vs.getD a nilS, ?_, (ht.row a ha).intsAt fun g hg => hS g (ht.own a ha g hg).2 ((ht.row a ha).lt hg)⟩⟩
  rw [ht.blk.cel]
  simp [List.getD_eq_getElem?_getD, ht.len, ha]
theorem TblAt.fr {X : Nat → Prop} {w w' : World} {S : Nat → Prop} {v : Value} {n : Nat} {t : List (List Nat)} (h : TblAt w.heap S v n t) (hf : Fr X w w') (hX : ∀ k, S k → ¬ X k) : TblAt w'.heap S v n t := by
  obtain ⟨b, h1, h2, h3⟩ := h
  refine ⟨b, h1, h2, fun a ha => ?_⟩
  obtain ⟨va, h4, h5⟩ := h3 a ha
  exact ⟨va, cel_fr h4 hf (hX b h2), h5.fr hf hX⟩
end Go.Proofs.Qxb6600121a
