/-
  THE PLAIN LAW OF THE SEARCH (4b): its third part, the sources found.
-/
import Derived.Test.Qxb6600121aLaw4
namespace Go.Proofs.Qxb6600121a
open Go
section
variable {D : List Rl} {n k : Nat} {A : List Nat} {T U : Nat → Prop} {S B S0 : SS} {i r0 : Nat} {rs rd us : List Nat}
structure QCx (D : List Rl) (n k : Nat) (A : List Nat) (T U : Nat → Prop) (B S : SS) (rd us : List Nat) : Prop where
  sa : SA D n k A T U B S
  looked : S.looked = B.looked + (S.lost.length : Nat)
  src : SrcG D A S (fun _ _ => False)
  need : ∀ r, CR D A r → S.closed.getD r false = false → S.val.getD (D.getD r rl0).head 0 = 1 → S.source.getD (D.getD r rl0).head 0 < 0 → S.need.getD r 0 = ((needs D k S r + us.count r : Nat) : Int) ∧ (S.need.getD r 0 = 0 → r ∈ rd)
  rdo : ∀ r ∈ rd, CR D A r ∧ S.val.getD (D.getD r rl0).head 0 = 1 ∧ S.closed.getD r false = false ∧ needs D k S r = 0
  uso : ∀ r ∈ us, r < D.length
  lb : rd.length + us.length ≤ capM 200000 + capM (cS S.source)
theorem capM_mono {i j : Nat} (h : i ≤ j) : capM i ≤ capM j := Nat.mul_le_mul_right _ h
theorem QBx.next (hok : Okay n D) (hn : n ≤ 65536) (h : QBx D n k A T U B S rd S.lost.length []) : QCx D n k A T U B S rd [] := by
  refine ⟨h.sa, h.looked, h.src, fun r hr hc hv hs => ?_, h.rdo, fun r hr => (by cases hr), ?_⟩
  · obtain ⟨ρ, hsrc⟩ := h.src
    rcases hsrc _ hr.2 hv with h1 | ⟨r', h1, -⟩
    · have hb : r ∈ (idxH D n D.length).getD (D.getD r rl0).head [] := (mem_idxH D n D.length (Nat.le_refl _) hok _ r).2 ⟨hr.1, rfl⟩
      rcases h.need _ (by rw [List.take_length]; exact h1.2) hv r hb hc with h2 | h2
      · cases h2
      · refine ⟨by rw [h2.1]; simp, fun hz => h2.2 ?_⟩
        rw [h2.1] at hz
        omega
    · rw [h1] at hs; omega
  · have h1 := h.lb
    have h2 := h.sa.ll
    have h3 := capM_mono (show S.lost.length ≤ 200000 by omega)
    have h4 := Nat.zero_le (capM (cS S.source))
    omega
theorem countP_src (part : Nat) (S : SS) (a : Nat) (x : Int) (hx : 0 ≤ x) (ha : a < S.source.length) (hc : condN part S a = true) (l : List Nat) :
    l.countP (condN part { S with source := S.source.set a x }) + l.count a = l.countP (condN part S) := by
  induction l with
  | nil => rfl
  | cons b l ih =>
    rw [List.countP_cons, List.countP_cons, List.count_cons]
    by_cases hb : b = a
    · subst hb
      have e : condN part { S with source := S.source.set b x } b = false := by
        refine decide_eq_false (fun e => ?_)
        have h3 : (S.source.set b x).getD b 0 < 0 := e.2.2
        rw [getD_set_eq _ _ _ _ ha] at h3
        omega
      rw [e, hc]
      simp only [Bool.false_eq_true, if_false, beq_self_eq_true, if_true]
      omega
    · have e : condN part { S with source := S.source.set a x } b = condN part S b := by
        unfold condN
        have h3 : (S.source.set a x).getD b 0 = S.source.getD b 0 := getD_set_ne' _ _ _ _ _ (Ne.symm hb)
        simp only [h3]
      have e2 : (b == a) = false := by simpa using hb
      rw [e, e2]
      simp only [Bool.false_eq_true, if_false]
      omega
theorem QCx.skipR (h : QCx D n k A T U B S (rd ++ [r0]) []) (hs : 0 ≤ S.source.getD (D.getD r0 rl0).head 0) : QCx D n k A T U B S rd [] := by
  refine ⟨h.sa, h.looked, h.src, fun r hr hc hv hsr => ?_, fun r hr => h.rdo r (List.mem_append_left _ hr), h.uso, ?_⟩
  · obtain ⟨h1, h2⟩ := h.need r hr hc hv hsr
    refine ⟨h1, fun hz => ?_⟩
    rcases List.mem_append.1 (h2 hz) with h3 | h3
    · exact h3
    · have : r = r0 := by simpa using h3
      rw [this] at hsr; omega
  · have := h.lb
    rw [List.length_append, List.length_singleton] at this
    omega
theorem QCx.take (hok : Okay n D) (hl : D.length + tot (D.map Rl.rd) ≤ 1048576) (hA : ∀ x ∈ A, x < n) (hc : Krn D n k A T U B []) (h : QCx D n k A T U B S (rd ++ [r0]) []) (hs : S.source.getD (D.getD r0 rl0).head 0 < 0) :
    QCx D n k A T U B { S with source := S.source.set (D.getD r0 rl0).head (r0 : Int) } rd ((idxU D n D.length).getD (D.getD r0 rl0).head []) := by
  obtain ⟨hcr, hv0, hc0, hz0⟩ := h.rdo r0 (by simp)
  have hhn := hA _ hcr.2
  have hsl : (D.getD r0 rl0).head < S.source.length := by rw [h.sa.nsrc]; exact hhn
  have hss : (S.source.set (D.getD r0 rl0).head (r0 : Int)).getD (D.getD r0 rl0).head 0 = (r0 : Int) := getD_set_eq _ _ _ _ hsl
  have hsn : ∀ x, x ≠ (D.getD r0 rl0).head → (S.source.set (D.getD r0 rl0).head (r0 : Int)).getD x 0 = S.source.getD x 0 := fun x hx => getD_set_ne' _ _ _ _ _ (Ne.symm hx)
  have hprt : ∀ x, x < n → (S.part.getD x 0 = (k : Int) ↔ x ∈ A) := fun x hx => by rw [h.sa.same.part]; exact hc.prt x hx
  have hcond : condN k S (D.getD r0 rl0).head = true := decide_eq_true ⟨(hprt _ hhn).2 hcr.2, hv0, hs⟩
  have hcs := cS_pos S.source (D.getD r0 rl0).head (r0 : Int) hsl hs (by omega)
  have hneeds : ∀ r, needs D k { S with source := S.source.set (D.getD r0 rl0).head (r0 : Int) } r + (D.getD r rl0).all.count (D.getD r0 rl0).head = needs D k S r := fun r => countP_src k S _ _ (by omega) hsl hcond _
  have hoks := hok _ (getD_mem rl0 hcr.1)
  have hself : (D.getD r0 rl0).head ∉ (D.getD r0 rl0).all := hc.Z1 r0 hcr (by rw [← h.sa.same.closed]; exact hc0)
  refine ⟨⟨⟨h.sa.same.val, h.sa.same.part, h.sa.same.closed, h.sa.same.wait, h.sa.same.opn, h.sa.same.queue⟩, ?_, h.sa.nneed, h.sa.nb, h.sa.lost, h.sa.ll, ?_⟩, h.looked, ?_, ?_, ?_, ?_, ?_⟩
  · show (S.source.set _ _).length = n
    rw [List.length_set]; exact h.sa.nsrc
  · intro x hx hxA
    rw [← h.sa.fs x hx hxA]
    exact hsn x (fun e => hxA (by rw [e]; exact hcr.2))
  · obtain ⟨ρ, hsrc⟩ := h.src
    refine ⟨fun x => if x = (D.getD r0 rl0).head then ((D.getD r0 rl0).all.map ρ).sum + 1 else ρ x, fun a ha hv => ?_⟩
    show ((S.source.set (D.getD r0 rl0).head (r0 : Int)).getD a 0 < 0 ∧ a ∈ S.lost) ∨ ∃ r : Nat, (S.source.set (D.getD r0 rl0).head (r0 : Int)).getD a 0 = (r : Int) ∧ r < D.length ∧ (D.getD r rl0).head = a ∧ S.closed.getD r false = false ∧
      ∀ b ∈ (D.getD r rl0).all, b ∈ A → S.val.getD b 0 = 1 → (0 ≤ (S.source.set (D.getD r0 rl0).head (r0 : Int)).getD b 0 ∧ _) ∨ False
    by_cases hah : a = (D.getD r0 rl0).head
    · right
      subst hah
      refine ⟨r0, hss, hcr.1, rfl, hc0, fun b hb hbA hbv => .inl ?_⟩
      have hbh : b ≠ (D.getD r0 rl0).head := fun e => hself (by rw [← e]; exact hb)
      rw [hsn b hbh]
      refine ⟨?_, ?_⟩
      · unfold needs at hz0
        rw [List.countP_eq_zero] at hz0
        by_cases hneg : S.source.getD b 0 < 0
        · exact absurd (decide_eq_true ⟨(hprt b (hA b hbA)).2 hbA, hbv, hneg⟩) (hz0 b hb)
        · omega
      · simp only [if_neg hbh, if_true]
        have := le_sum (List.mem_map.2 ⟨b, hb, rfl⟩ : ρ b ∈ (D.getD r0 rl0).all.map ρ)
        omega
    · rw [hsn a hah]
      rcases hsrc a ha hv with h1 | ⟨r, h1, h2, h3, h4, h5⟩
      · exact .inl h1
      · refine .inr ⟨r, h1, h2, h3, h4, fun b hb hbA hbv => ?_⟩
        rcases h5 b hb hbA hbv with h6 | h6
        · have hbh : b ≠ (D.getD r0 rl0).head := fun e => by rw [e] at h6; omega
          rw [hsn b hbh]
          left
          refine ⟨h6.1, ?_⟩
          simp only [if_neg hbh, if_neg hah]
          exact h6.2
        · exact h6.elim
  · intro r hr hcl hv hsr
    have hsr : (S.source.set (D.getD r0 rl0).head (r0 : Int)).getD (D.getD r rl0).head 0 < 0 := hsr
    have hne : (D.getD r rl0).head ≠ (D.getD r0 rl0).head := fun e => by rw [e, hss] at hsr; omega
    rw [hsn _ hne] at hsr
    obtain ⟨h1, h2⟩ := h.need r hr hcl hv hsr
    have h3 := hneeds r
    have h4 := count_idxU D n D.length (Nat.le_refl _) hok (D.getD r0 rl0).head r
    rw [if_pos hr.1] at h4
    refine ⟨?_, fun hz => ?_⟩
    · show S.need.getD r 0 = _
      rw [h1, h4, ← h3]
      simp
    · rcases List.mem_append.1 (h2 hz) with h5 | h5
      · exact h5
      · have : r = r0 := by simpa using h5
        exact absurd (by rw [this]) hne
  · intro r hr
    obtain ⟨h1, h2, h3, h4⟩ := h.rdo r (List.mem_append_left _ hr)
    exact ⟨h1, h2, h3, by have := hneeds r; omega⟩
  · intro r hr
    exact ((mem_idxU D n D.length (Nat.le_refl _) hok _ r).1 hr).1
  · have h1 := h.lb
    rw [List.length_append, List.length_singleton] at h1
    have h2 := idxU_short D n D.length (Nat.le_refl _) (D.getD r0 rl0).head
    rw [show (D.map Rl.rd).take D.length = D.map Rl.rd by rw [List.take_of_length_le (by simp)]] at h2
    show rd.length + _ ≤ capM 200000 + capM (cS (S.source.set (D.getD r0 rl0).head (r0 : Int)))
    rw [hcs]
    have h3 := capM_succ (cS S.source)
    simp only [List.length_nil] at h1
    omega
end
end Go.Proofs.Qxb6600121a
