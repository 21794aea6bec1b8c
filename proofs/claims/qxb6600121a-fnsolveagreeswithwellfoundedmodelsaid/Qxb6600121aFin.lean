/-
  WHAT THE COMPONENTS' WALK HANDS BACK: every atom once, each component behind those that it depends on, and strongly connected.
-/
import Derived.Test.Qxb6600121aW15
import Derived.Test.Qxb6600121aW18
import Derived.Test.Qxb6600121aLaw2b
namespace Go.Proofs.Qxb6600121a
open Go Go.Proofs
def sg (atoms ends : List Nat) (k : Nat) : List Nat := (atoms.take (ends.getD k 0)).drop (prevE ends k)
structure Fin' (D : List Rl) (n : Nat) (atoms ends : List Nat) : Prop where
  part : Part n atoms ends
  ne : ends.length ≤ n
  cl : ∀ k, k < ends.length → ∀ x ∈ atoms.take (ends.getD k 0), ∀ d, Ed D x d → d ∈ atoms.take (ends.getD k 0)
  sc : ∀ k, k < ends.length → ∀ x ∈ sg atoms ends k, ∀ y ∈ sg atoms ends k, Rch (Ed D) (fun z => z ∈ sg atoms ends k) x y
theorem compsF (w : World) (L : Lay) (n : Nat) (hn : n ≤ 65536) (D : List Rl) (hok : Okay n D) (hl : D.length + tot (D.map Rl.rd) ≤ 1048576) (hst : Stat w.heap L n D) (hs0 : cel w.heap (L.s + 9) 0 = some (.pointer (some ⟨L.s + 8, 0, none⟩))) (hs1 : cel w.heap (L.s + 9) 1 = some L.bh) :
    CallsS Try.prog 15 #[.pointer (some ⟨L.s + 9, 0, none⟩)] w (fun r w' => ∃ av ev, r = .tuple #[av, ev] ∧ ∃ atoms ends, Fin' D n atoms ends ∧ Fr (fun _ => False) w w' ∧
      Row w'.heap 3 1 av atoms.length (nats atoms) ∧ Row w'.heap 3 1 ev ends.length (nats ends) ∧ (∀ g, av.ownBlock = some g → w.heap.size ≤ g) ∧ (∀ g, ev.ownBlock = some g → w.heap.size ≤ g)) := by
  refine comps15 w _ (fun av ev w' => ∃ atoms ends, Fin' D n atoms ends ∧ Fr (fun _ => False) w w' ∧
      Row w'.heap 3 1 av atoms.length (nats atoms) ∧ Row w'.heap 3 1 ev ends.length (nats ends) ∧ (∀ g, av.ownBlock = some g → w.heap.size ≤ g) ∧ (∀ g, ev.ownBlock = some g → w.heap.size ≤ g)) ?_
  refine (comps w L n hn D hok hl hst hs0 hs1 (fun t => P1 D n t ∧ P2 D n noHole t) (mu D n) (fun t h => h.1.safe) ⟨p1_start D n, p2_start D n⟩ ?_ ?_).mono ?_
  · intro t k h hc hk h0
    exact ⟨h.1.visit hk h0 (.inl (h.1.stack_nil hc)), h.2.visit h.1 hk h0 (fun f rest e => by rw [hc] at e; cases e)⟩
  · intro t h hne
    have h1 := h.1.step hok hne
    exact ⟨⟨h1.1, h.2.stepC hok h.1 hne⟩, h1.2⟩
  · rintro r w' ⟨t, av, ev, h1, h2, h3, h4, h5, h6, h7, h8, h9⟩
    exact ⟨av, ev, h4, t.atoms, t.ends, ⟨h1.1.part h2 h3, h1.1.safe.ne, h1.2.cl, h1.2.sc⟩, h5, h6, h7, h8, h9⟩
section
variable {D : List Rl} {n : Nat} {atoms ends : List Nat}
theorem Part.nodup (h : Part n atoms ends) : atoms.Nodup := by
  refine List.pairwise_iff_getElem.2 (fun i j hi hj hij => ?_)
  have hl := h.len
  have := h.inj i j hij (by omega)
  simp only [List.getD_eq_getElem?_getD, List.getElem?_eq_getElem hi, List.getElem?_eq_getElem hj, Option.getD_some] at this
  exact this
theorem Part.mem_lt (h : Part n atoms ends) {x : Nat} (hx : x ∈ atoms) : x < n := by
  obtain ⟨i, hi, rfl⟩ := List.mem_iff_getElem.1 hx
  have := h.lt i (by rw [← h.len]; exact hi)
  rw [List.getD_eq_getElem?_getD, List.getElem?_eq_getElem hi] at this
  exact this
theorem Part.mem (h : Part n atoms ends) {x : Nat} (hx : x < n) : x ∈ atoms := by
  by_cases hm : x ∈ atoms
  · exact hm
  · exfalso
    have h1 := nodup_subset_length (l := x :: atoms) (m := List.range n) (List.nodup_cons.2 ⟨hm, h.nodup⟩) (fun y hy => by
      rcases List.mem_cons.1 hy with rfl | hy
      · exact List.mem_range.2 hx
      · exact List.mem_range.2 (h.mem_lt hy))
    have := h.len
    simp at h1
    omega
theorem Part.at (h : Part n atoms ends) {x : Nat} (hx : x < n) : ∃ i, i < n ∧ atoms.getD i 0 = x := by
  obtain ⟨i, hi, he⟩ := List.mem_iff_getElem.1 (h.mem hx)
  exact ⟨i, by rw [← h.len]; exact hi, by rw [List.getD_eq_getElem?_getD, List.getElem?_eq_getElem hi, he]; rfl⟩
theorem Part.seg_of (_h : Part n atoms ends) {i : Nat} : ∀ K, K ≤ ends.length → i < prevE ends K → ∃ k, k < K ∧ prevE ends k ≤ i ∧ i < ends.getD k 0
  | 0, _, hi => absurd hi (Nat.not_lt_zero _)
  | K + 1, hK, hi => by
    by_cases h1 : i < prevE ends K
    · obtain ⟨k, hk, h2⟩ := Part.seg_of _h K (by omega) h1
      exact ⟨k, by omega, h2⟩
    · exact ⟨K, by omega, by omega, hi⟩
theorem Part.seg (h : Part n atoms ends) {i : Nat} (hi : i < n) : ∃ k, k < ends.length ∧ prevE ends k ≤ i ∧ i < ends.getD k 0 :=
  h.seg_of ends.length (Nat.le_refl _) (by rw [h.last]; exact hi)
theorem mem_take' {l : List Nat} {m x : Nat} (h : x ∈ l.take m) : ∃ j, j < m ∧ j < l.length ∧ l.getD j 0 = x := by
  obtain ⟨j, hj, he⟩ := List.mem_iff_getElem.1 h
  rw [List.length_take] at hj
  refine ⟨j, by omega, by omega, ?_⟩
  rw [List.getElem_take] at he
  rw [List.getD_eq_getElem?_getD, List.getElem?_eq_getElem (by omega), he]
  rfl
theorem take_mem' {l : List Nat} {m j : Nat} (h : j < m) (hl : j < l.length) : l.getD j 0 ∈ l.take m := by
  rw [List.getD_eq_getElem?_getD, List.getElem?_eq_getElem hl]
  exact List.mem_iff_getElem.2 ⟨j, by rw [List.length_take]; omega, by rw [List.getElem_take]; rfl⟩
/-- What 'comp' says. -/
def CompIs (atoms ends cs : List Nat) : Prop := ∀ k i, k < ends.length → prevE ends k ≤ i → i < ends.getD k 0 → cs.getD (atoms.getD i 0) 0 = k
theorem Fin'.below (h : Fin' D n atoms ends) {cs : List Nat} (hcs : CompIs atoms ends cs) {x d : Nat} (hx : x < n) (he : Ed D x d) : cs.getD d 0 ≤ cs.getD x 0 := by
  obtain ⟨i, hi, rfl⟩ := h.part.at hx
  obtain ⟨k, hk, h1, h2⟩ := h.part.seg hi
  have hd := h.cl k hk _ (take_mem' h2 (by rw [h.part.len]; exact hi)) d he
  obtain ⟨j, hj, hjl, rfl⟩ := mem_take' hd
  rw [h.part.len] at hjl
  obtain ⟨k', hk', h3, h4⟩ := h.part.seg hjl
  rw [hcs k i hk h1 h2, hcs k' j hk' h3 h4]
  by_cases hlt : k < k'
  · have := h.part.ends_mono (j := k + 1) (k := k') hlt (by omega)
    rw [prevE_succ] at this
    omega
  · omega
end
end Go.Proofs.Qxb6600121a
