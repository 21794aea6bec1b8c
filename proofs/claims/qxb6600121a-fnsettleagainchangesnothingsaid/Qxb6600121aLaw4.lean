/-
  THE PLAIN LAW OF THE SEARCH (4): its first two parts.
-/
import Derived.Test.Qxb6600121aLaw3c
namespace Go.Proofs.Qxb6600121a
open Go
/-- What a search leaves alone. -/
structure Same (B S : SS) : Prop where
  val : S.val = B.val
  part : S.part = B.part
  closed : S.closed = B.closed
  wait : S.wait = B.wait
  opn : S.opn = B.opn
  queue : S.queue = B.queue
/-- The part of a search's invariant that all its parts share. -/
structure SA (D : List Rl) (n k : Nat) (A : List Nat) (T U : Nat → Prop) (B S : SS) : Prop where
  same : Same B S
  nsrc : S.source.length = n
  nneed : S.need.length = D.length
  nb : ∀ r, r < D.length → 0 ≤ S.need.getD r 0 ∧ S.need.getD r 0 ≤ 2000000
  lost : ∀ x ∈ S.lost, x ∈ A
  ll : S.lost.length ≤ 3 * n
  fs : ∀ x, x < n → x ∉ A → S.source.getD x 0 = B.source.getD x 0
section
variable {D : List Rl} {n k : Nat} {A : List Nat} {T U : Nat → Prop} {S B S0 : SS} {G G' : Nat → Nat → Prop} {LB : Int} {i r0 : Nat} {rs rd : List Nat}
theorem SrcG.map (h : SrcG D A S G) (hg : ∀ a ∈ A, ∀ (r b : Nat), S.source.getD a 0 = (r : Int) → r < D.length → (D.getD r rl0).head = a → b ∈ (D.getD r rl0).all → b ∈ A → S.val.getD b 0 = 1 → G r b → (0 ≤ S.source.getD b 0 ∧ False) ∨ G' r b) : SrcG D A S G' := by
  obtain ⟨ρ, h⟩ := h
  refine ⟨ρ, fun a ha hv => ?_⟩
  rcases h a ha hv with h1 | ⟨r, h1, h2, h3, h4, h5⟩
  · exact .inl h1
  · refine .inr ⟨r, h1, h2, h3, h4, fun b hb hbA hbv => ?_⟩
    rcases h5 b hb hbA hbv with h6 | h6
    · exact .inl h6
    · rcases hg a ha r b h1 h2 h3 hb hbA hbv h6 with h7 | h7
      · exact h7.2.elim
      · exact .inr h7
structure QAx (D : List Rl) (n k : Nat) (A : List Nat) (T U : Nat → Prop) (B S : SS) (i : Nat) (rs : List Nat) : Prop where
  sa : SA D n k A T U B S
  looked : S.looked = B.looked
  sum : S.lost.length + cS S.source ≤ 3 * n
  il : i ≤ S.lost.length
  src : SrcG D A S (fun r b => b ∈ S.lost.drop i ∨ r ∈ rs)
theorem drop_mem {l : List Nat} {i b : Nat} (hi : i < l.length) (h : b ∈ l.drop i) : b = l.getD i 0 ∨ b ∈ l.drop (i + 1) := by
  rw [drop_getD l i 0 hi] at h
  exact List.mem_cons.1 h
theorem QAx.start (h : PEx D n k A T U S0 LB B []) : QAx D n k A T U B B 0 [] :=
  ⟨⟨⟨rfl, rfl, rfl, rfl, rfl, rfl⟩, h.core.len.nsource, h.core.len.nneed, h.core.nb, h.lost, Nat.le_trans (Nat.le_add_right _ _) h.sum, fun _ _ _ => rfl⟩, rfl, h.sum, Nat.zero_le _, h.src.mono (fun _ _ e => .inl e)⟩
theorem QAx.one (h : QAx D n k A T U B S i []) (hi : i < S.lost.length) (hv : S.val.getD (S.lost.getD i 0) 0 ≠ 1) : QAx D n k A T U B S (i + 1) [] := by
  refine ⟨h.sa, h.looked, h.sum, hi, h.src.map (fun a ha r b h1 h2 h3 h4 h5 h6 h7 => ?_)⟩
  rcases h7 with h7 | h7
  · rcases drop_mem hi h7 with h8 | h8
    · rw [h8] at h6; exact absurd h6 hv
    · exact .inr (.inl h8)
  · cases h7
theorem QAx.two (hok : Okay n D) (h : QAx D n k A T U B S i []) (hi : i < S.lost.length) : QAx D n k A T U B S (i + 1) ((idxU D n D.length).getD (S.lost.getD i 0) []) := by
  refine ⟨h.sa, h.looked, h.sum, hi, h.src.map (fun a ha r b h1 h2 h3 h4 h5 h6 h7 => ?_)⟩
  rcases h7 with h7 | h7
  · rcases drop_mem hi h7 with h8 | h8
    · exact .inr (.inr (by rw [← h8]; exact (mem_idxU D n D.length (Nat.le_refl _) hok b r).2 ⟨h2, h4⟩))
    · exact .inr (.inl h8)
  · cases h7
theorem QAx.three (hc : Krn D n k A T U B []) {r0 : Nat} {rs : List Nat} (hh : (D.getD r0 rl0).head < n) (h : QAx D n k A T U B S i (r0 :: rs)) : QAx D n k A T U B (los1 D k S r0) i rs := by
  have hpr : ∀ x, x < n → (S.part.getD x 0 = (k : Int) ↔ x ∈ A) := fun x hx => by rw [h.sa.same.part]; exact hc.prt x hx
  unfold los1
  split
  · rename_i hp
    have hhA := (hpr _ hh).1 hp
    unfold loseIf
    split
    · rename_i hs
      have hsl : (D.getD r0 rl0).head < S.source.length := by rw [h.sa.nsrc]; exact hh
      have hss : (S.source.set (D.getD r0 rl0).head (-1)).getD (D.getD r0 rl0).head 0 = -1 := getD_set_eq _ _ _ _ hsl
      have hsn : ∀ x, x ≠ (D.getD r0 rl0).head → (S.source.set (D.getD r0 rl0).head (-1)).getD x 0 = S.source.getD x 0 := fun x hx => getD_set_ne' _ _ _ _ _ (Ne.symm hx)
      have hcs := cS_neg S.source _ hsl (by rw [hs]; omega)
      have hil := h.il
      have hdr : ∀ b, b ∈ S.lost.drop i → b ∈ (S.lost ++ [(D.getD r0 rl0).head]).drop i := fun b hb => by
        rw [List.drop_append_of_le_length hil]; exact List.mem_append_left _ hb
      have hdh : (D.getD r0 rl0).head ∈ (S.lost ++ [(D.getD r0 rl0).head]).drop i := by
        rw [List.drop_append_of_le_length hil]; simp
      refine ⟨⟨⟨h.sa.same.val, h.sa.same.part, h.sa.same.closed, h.sa.same.wait, h.sa.same.opn, h.sa.same.queue⟩, ?_, h.sa.nneed, h.sa.nb, ?_, ?_, ?_⟩, h.looked, ?_, ?_, ?_⟩
      · show (S.source.set _ _).length = n
        rw [List.length_set]; exact h.sa.nsrc
      · intro x hx
        rcases List.mem_append.1 hx with hx | hx
        · exact h.sa.lost x hx
        · have : x = (D.getD r0 rl0).head := by simpa using hx
          rw [this]; exact hhA
      · have := h.sum
        show (S.lost ++ [(D.getD r0 rl0).head]).length ≤ 3 * n
        rw [List.length_append, List.length_singleton]
        omega
      · intro x hx hxA
        rw [← h.sa.fs x hx hxA]
        exact hsn x (fun e => hxA (by rw [e]; exact hhA))
      · have := h.sum
        show (S.lost ++ [(D.getD r0 rl0).head]).length + cS (S.source.set (D.getD r0 rl0).head (-1)) ≤ 3 * n
        rw [List.length_append, List.length_singleton]
        omega
      · show i ≤ (S.lost ++ [(D.getD r0 rl0).head]).length
        rw [List.length_append]; omega
      · obtain ⟨ρ, hsrc⟩ := h.src
        refine ⟨ρ, fun a ha hv => ?_⟩
        show ((S.source.set (D.getD r0 rl0).head (-1)).getD a 0 < 0 ∧ a ∈ S.lost ++ [(D.getD r0 rl0).head]) ∨ ∃ r : Nat, (S.source.set (D.getD r0 rl0).head (-1)).getD a 0 = (r : Int) ∧ r < D.length ∧ (D.getD r rl0).head = a ∧ S.closed.getD r false = false ∧
          ∀ b ∈ (D.getD r rl0).all, b ∈ A → S.val.getD b 0 = 1 → (0 ≤ (S.source.set (D.getD r0 rl0).head (-1)).getD b 0 ∧ ρ b < ρ a) ∨ b ∈ (S.lost ++ [(D.getD r0 rl0).head]).drop i ∨ r ∈ rs
        by_cases hah : a = (D.getD r0 rl0).head
        · left; subst hah; rw [hss]; exact ⟨by decide, by simp⟩
        · rw [hsn a hah]
          rcases hsrc a ha hv with h1 | ⟨r, h1, h2, h3, h4, h5⟩
          · exact .inl ⟨h1.1, List.mem_append_left _ h1.2⟩
          · refine .inr ⟨r, h1, h2, h3, h4, fun b hb hbA hbv => ?_⟩
            by_cases hbh : b = (D.getD r0 rl0).head
            · right; left; rw [hbh]; exact hdh
            · rw [hsn b hbh]
              rcases h5 b hb hbA hbv with h6 | h6 | h6
              · exact .inl h6
              · exact .inr (.inl (hdr b h6))
              · rcases List.mem_cons.1 h6 with h7 | h7
                · exact absurd (by rw [← h3, h7]) hah
                · exact .inr (.inr h7)
    · rename_i hs
      refine ⟨h.sa, h.looked, h.sum, h.il, h.src.map (fun a ha r b h1 h2 h3 h4 h5 h6 h7 => ?_)⟩
      rcases h7 with h7 | h7
      · exact .inr (.inl h7)
      · rcases List.mem_cons.1 h7 with h8 | h8
        · exact absurd (by rw [← h8, h3]; exact h1) hs
        · exact .inr (.inr h8)
  · rename_i hp
    refine ⟨h.sa, h.looked, h.sum, h.il, h.src.map (fun a ha r b h1 h2 h3 h4 h5 h6 h7 => ?_)⟩
    rcases h7 with h7 | h7
    · exact .inr (.inl h7)
    · rcases List.mem_cons.1 h7 with h8 | h8
      · exact absurd ((hpr _ hh).2 (by rw [← h8, h3]; exact ha)) hp
      · exact .inr (.inr h8)
/-! ### The second part -/
def capM (i : Nat) : Nat := i * 1048576
theorem capM_succ (i : Nat) : capM (i + 1) = capM i + 1048576 := Nat.succ_mul i 1048576
structure QBx (D : List Rl) (n k : Nat) (A : List Nat) (T U : Nat → Prop) (B S : SS) (rd : List Nat) (i : Nat) (rs : List Nat) : Prop where
  sa : SA D n k A T U B S
  looked : S.looked = B.looked + (S.lost.length : Nat)
  il : i ≤ S.lost.length
  src : SrcG D A S (fun _ _ => False)
  need : ∀ a ∈ S.lost.take i, S.val.getD a 0 = 1 → ∀ r ∈ (idxH D n D.length).getD a [], S.closed.getD r false = false → r ∈ rs ∨ (S.need.getD r 0 = (needs D k S r : Int) ∧ (needs D k S r = 0 → r ∈ rd))
  rdo : ∀ r ∈ rd, CR D A r ∧ S.val.getD (D.getD r rl0).head 0 = 1 ∧ S.closed.getD r false = false ∧ needs D k S r = 0
  rso : ∀ r ∈ rs, CR D A r ∧ S.val.getD (D.getD r rl0).head 0 = 1
  lb : rd.length + rs.length ≤ capM i
theorem QAx.next (h : QAx D n k A T U B S i []) (hi : ¬ i < S.lost.length) : QBx D n k A T U B { S with looked := S.looked + (S.lost.length : Nat) } [] 0 [] := by
  refine ⟨⟨⟨h.sa.same.val, h.sa.same.part, h.sa.same.closed, h.sa.same.wait, h.sa.same.opn, h.sa.same.queue⟩, h.sa.nsrc, h.sa.nneed, h.sa.nb, h.sa.lost, h.sa.ll, h.sa.fs⟩, ?_, Nat.zero_le _, ?_, fun a ha => ?_, fun r hr => ?_, fun r hr => ?_, Nat.zero_le _⟩
  · show S.looked + _ = _; rw [h.looked]
  · refine h.src.map (fun a ha r b h1 h2 h3 h4 h5 h6 h7 => ?_)
    rcases h7 with h7 | h7
    · rw [List.drop_eq_nil_of_le (by omega)] at h7; cases h7
    · cases h7
  · rw [List.take_zero] at ha; cases ha
  · cases hr
  · cases hr
theorem take_mem {l : List Nat} {i a : Nat} (hi : i < l.length) (h : a ∈ l.take (i + 1)) : a ∈ l.take i ∨ a = l.getD i 0 := by
  rw [take_succ_getD l i 0 hi] at h
  rcases List.mem_append.1 h with h1 | h1
  · exact .inl h1
  · exact .inr (by simpa using h1)
theorem QBx.one (h : QBx D n k A T U B S rd i []) (hi : i < S.lost.length) (hv : S.val.getD (S.lost.getD i 0) 0 ≠ 1) : QBx D n k A T U B S rd (i + 1) [] := by
  refine ⟨h.sa, h.looked, hi, h.src, fun a ha hav => ?_, h.rdo, h.rso, by have := h.lb; have := capM_succ i; omega⟩
  rcases take_mem hi ha with h1 | h1
  · exact h.need a h1 hav
  · rw [h1] at hav; exact absurd hav hv
theorem QBx.two (hok : Okay n D) (hl : D.length ≤ 1048576) (h : QBx D n k A T U B S rd i []) (hi : i < S.lost.length) (hv : S.val.getD (S.lost.getD i 0) 0 = 1) : QBx D n k A T U B S rd (i + 1) ((idxH D n D.length).getD (S.lost.getD i 0) []) := by
  have hsh := idxH_short D n D.length (S.lost.getD i 0)
  refine ⟨h.sa, h.looked, hi, h.src, fun a ha hav r hr hc => ?_, h.rdo, fun r hr => ?_, by have := h.lb; have := capM_succ i; simp only [List.length_nil] at *; omega⟩
  · rcases take_mem hi ha with h1 | h1
    · rcases h.need a h1 hav r hr hc with h2 | h2
      · cases h2
      · exact .inr h2
    · left; rw [← h1]; exact hr
  · obtain ⟨h1, h2⟩ := (mem_idxH D n D.length (Nat.le_refl _) hok _ r).1 hr
    exact ⟨⟨h1, by rw [h2]; exact h.sa.lost _ (getD_mem 0 hi)⟩, by rw [h2]; exact hv⟩
theorem QBx.three (h : QBx D n k A T U B S rd i (r0 :: rs)) (hc : S.closed.getD r0 false = true) : QBx D n k A T U B S rd i rs := by
  refine ⟨h.sa, h.looked, h.il, h.src, fun a ha hav r hr hcr => ?_, h.rdo, fun r hr => h.rso r (List.mem_cons_of_mem _ hr), by have := h.lb; simp only [List.length_cons] at this; omega⟩
  rcases h.need a ha hav r hr hcr with h1 | h1
  · rcases List.mem_cons.1 h1 with h2 | h2
    · rw [h2, hc] at hcr; cases hcr
    · exact .inl h2
  · exact .inr h1
theorem needs_le (D : List Rl) (hl : D.length + tot (D.map Rl.rd) ≤ 1048576) (k : Nat) (S : SS) (r : Nat) : needs D k S r ≤ 1048576 := by
  unfold needs
  have h1 := List.countP_le_length (p := condN k S) (l := (D.getD r rl0).all)
  by_cases hr : r < D.length
  · have := totD D r hr
    have := tot_take_le (D.map Rl.rd) (r + 1)
    omega
  · have e : D.getD r rl0 = rl0 := by rw [List.getD_eq_getElem?_getD, List.getElem?_eq_none (by omega)]; rfl
    rw [e] at h1 ⊢
    exact Nat.le_trans h1 (Nat.zero_le _)
theorem QBx.four (hl : D.length + tot (D.map Rl.rd) ≤ 1048576) (h : QBx D n k A T U B S rd i (r0 :: rs)) (hc : S.closed.getD r0 false = false) : QBx D n k A T U B (setN D k S r0) (if needs D k S r0 = 0 then rd ++ [r0] else rd) i rs := by
  obtain ⟨hcr, hhv⟩ := h.rso r0 (List.mem_cons_self ..)
  have hrl : r0 < S.need.length := by rw [h.sa.nneed]; exact hcr.1
  have hns : (S.need.set r0 (needs D k S r0 : Int)).getD r0 0 = (needs D k S r0 : Int) := getD_set_eq _ _ _ _ hrl
  have hnn : ∀ x, x ≠ r0 → (S.need.set r0 (needs D k S r0 : Int)).getD x 0 = S.need.getD x 0 := fun x hx => getD_set_ne' _ _ _ _ _ (Ne.symm hx)
  have hnl := needs_le D hl k S r0
  have hsub : ∀ r, r ∈ rd → r ∈ (if needs D k S r0 = 0 then rd ++ [r0] else rd) := fun r hr => by
    split
    · exact List.mem_append_left _ hr
    · exact hr
  refine ⟨⟨⟨h.sa.same.val, h.sa.same.part, h.sa.same.closed, h.sa.same.wait, h.sa.same.opn, h.sa.same.queue⟩, h.sa.nsrc, ?_, ?_, h.sa.lost, h.sa.ll, h.sa.fs⟩, h.looked, h.il, h.src, ?_, ?_, fun r hr => h.rso r (List.mem_cons_of_mem _ hr), ?_⟩
  · show (S.need.set _ _).length = _
    rw [List.length_set]; exact h.sa.nneed
  · intro r hr
    show 0 ≤ (S.need.set r0 (needs D k S r0 : Int)).getD r 0 ∧ (S.need.set r0 (needs D k S r0 : Int)).getD r 0 ≤ 2000000
    by_cases hrr : r = r0
    · subst hrr; rw [hns]; omega
    · rw [hnn r hrr]; exact h.sa.nb r hr
  · intro a ha hav r hr hcl
    show r ∈ rs ∨ ((S.need.set r0 (needs D k S r0 : Int)).getD r 0 = (needs D k S r : Int) ∧ (needs D k S r = 0 → _))
    by_cases hrr : r = r0
    · subst hrr
      right
      refine ⟨hns, fun hz => ?_⟩
      rw [if_pos hz]; simp
    · rcases h.need a ha hav r hr hcl with h1 | h1
      · rcases List.mem_cons.1 h1 with h2 | h2
        · exact absurd h2 hrr
        · exact .inl h2
      · right
        rw [hnn r hrr]
        exact ⟨h1.1, fun hz => hsub r (h1.2 hz)⟩
  · intro r hr
    by_cases hz : needs D k S r0 = 0
    · rw [if_pos hz] at hr
      rcases List.mem_append.1 hr with h1 | h1
      · exact h.rdo r h1
      · have : r = r0 := by simpa using h1
        subst this
        exact ⟨hcr, hhv, hc, hz⟩
    · rw [if_neg hz] at hr
      exact h.rdo r hr
  · have := h.lb
    simp only [List.length_cons] at this
    split
    · rw [List.length_append, List.length_singleton]; omega
    · omega
end
end Go.Proofs.Qxb6600121a
