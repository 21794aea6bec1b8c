/-
  THE PLAIN LAW OF A FRESH SEARCH (8).
-/
import Derived.Test.Qxb6600121aSolP
namespace Go.Proofs.Qxb6600121a
open Go
section
variable {D : List Rl} {n k K : Nat} {T U : Nat → Prop} {S S' : SS} {atoms ends : List Nat} {A : List Nat}
/-- The undecided ones of a list. -/
def unds (S : SS) (l : List Nat) : List Nat := l.filter (fun a => decide (S.val.getD a 0 = 1))
def forgot (src : List Int) (l : List Nat) : List Int := l.foldl (fun s a => s.set a (-1)) src
/-- The state when the sources of a list's undecided atoms are forgotten. -/
def lsS (S : SS) (l : List Nat) : SS := { S with source := forgot S.source (unds S l), lost := S.lost ++ unds S l }
theorem forgot_len (src : List Int) (l : List Nat) : (forgot src l).length = src.length := by
  unfold forgot
  induction l generalizing src with
  | nil => rfl
  | cons a l ih => rw [List.foldl_cons, ih, List.length_set]
theorem forgot_keep (src : List Int) (l : List Nat) (x : Nat) (h : x ∉ l) : (forgot src l).getD x 0 = src.getD x 0 := by
  unfold forgot
  induction l generalizing src with
  | nil => rfl
  | cons a l ih =>
    rw [List.foldl_cons, ih _ (fun e => h (List.mem_cons_of_mem _ e)), getD_set_ne' _ _ _ _ _ (fun e => h (by rw [e]; exact List.mem_cons_self ..))]
theorem forgot_mem (src : List Int) (l : List Nat) (x : Nat) (h : x ∈ l) (hx : x < src.length) : (forgot src l).getD x 0 = -1 := by
  unfold forgot
  induction l generalizing src with
  | nil => cases h
  | cons a l ih =>
    rw [List.foldl_cons]
    by_cases hl : x ∈ l
    · exact ih _ hl (by rw [List.length_set]; exact hx)
    · rcases List.mem_cons.1 h with rfl | h1
      · have := forgot_keep (src.set x (-1)) l x hl
        unfold forgot at this
        rw [this, getD_set_eq _ _ _ _ hx]
      · exact absurd h1 hl
theorem lsS_nil (S : SS) : lsS S [] = S := by
  cases S
  simp [lsS, unds, forgot]
theorem lsS_yes (S : SS) (l : List Nat) (a : Nat) (h : S.val.getD a 0 = 1) : lsS S (l ++ [a]) = loseF (lsS S l) a := by
  have e : unds S (l ++ [a]) = unds S l ++ [a] := by
    unfold unds
    rw [List.filter_append, List.filter_cons_of_pos (by simpa using h)]
    rfl
  unfold lsS loseF
  rw [e]
  unfold forgot
  rw [List.foldl_append]
  simp
theorem lsS_no (S : SS) (l : List Nat) (a : Nat) (h : S.val.getD a 0 ≠ 1) : lsS S (l ++ [a]) = lsS S l := by
  have e : unds S (l ++ [a]) = unds S l := by
    unfold unds
    rw [List.filter_append, List.filter_cons_of_neg (by simpa using h)]
    simp
  unfold lsS
  rw [e]
theorem unds_len (S : SS) (l : List Nat) : (unds S l).length ≤ l.length := List.length_filter_le _ _
theorem mem_unds {x : Nat} {l : List Nat} : x ∈ unds S l ↔ x ∈ l ∧ S.val.getD x 0 = 1 := by
  unfold unds
  rw [List.mem_filter]
  simp
/-- With its sources forgotten, the component may be searched. -/
theorem RKx.forgot (hp : Part n atoms ends) (hn : n ≤ 65536) (h : RKx D n T U atoms ends ends.length K S) (hk : k < ends.length) :
    PEx D n k (sg atoms ends k) T U S (S.looked + 65537000000) (lsS S (sg atoms ends k)) [] ∧ Ranked D (sg atoms ends k) (lsS S (sg atoms ends k)) := by
  have hf := h.fixed k hk hk
  have hA : ∀ x ∈ sg atoms ends k, x < n := fun x hx => hp.mem_lt (List.mem_of_mem_take (sg_take hx))
  have hsl := sg_len hp hk
  have hinc := (hp.inc k hk).2
  have hul := unds_len S (sg atoms ends k)
  have hund := und_le S.val
  have hnv := h.len.nval
  have hns := h.len.nsource
  constructor
  · refine ⟨hf.core.src _ (by rw [forgot_len]; exact hns) _, ?_, ?_, ?_, h.lk0, ?_, ?_, ?_⟩
    · refine ⟨fun _ => 0, fun a ha hv => .inl ?_⟩
      have hv : S.val.getD a 0 = 1 := hv
      have hm : a ∈ unds S (sg atoms ends k) := mem_unds.2 ⟨ha, hv⟩
      refine ⟨?_, List.mem_append_right _ hm⟩
      show (Qxb6600121a.forgot S.source (unds S (sg atoms ends k))).getD a 0 < 0
      rw [forgot_mem _ _ _ hm (by rw [hns]; exact hA a ha)]
      decide
    · intro x hx
      have hx : x ∈ S.lost ++ unds S (sg atoms ends k) := hx
      rw [h.lost, List.nil_append] at hx
      exact (mem_unds.1 hx).1
    · show (S.lost ++ unds S (sg atoms ends k)).length + cS (Qxb6600121a.forgot S.source (unds S (sg atoms ends k))) ≤ 3 * n
      have h1 := cS_le (Qxb6600121a.forgot S.source (unds S (sg atoms ends k)))
      rw [forgot_len, hns] at h1
      rw [h.lost, List.nil_append]
      omega
    · show S.looked + ((und S.val + 1 : Nat) : Int) * 1000000 ≤ S.looked + 65537000000
      omega
    · show und S.val + S.queue.length ≤ n
      rw [h.queue]
      simp only [List.length_nil]
      omega
    · refine ⟨fun _ _ _ => rfl, fun x _ hxA => ?_, fun _ _ _ => rfl, fun _ _ _ => rfl, fun _ _ _ => rfl, fun _ _ _ => rfl⟩
      show (Qxb6600121a.forgot S.source (unds S (sg atoms ends k))).getD x 0 = _
      exact forgot_keep _ _ _ (fun e => hxA (mem_unds.1 e).1)
  · obtain ⟨ρ, hsrc⟩ := hf.src
    refine ⟨ρ, fun a ha hav => ?_⟩
    obtain ⟨r, h1, h2, h3, h4, h5⟩ := hsrc a ha hav
    exact ⟨r, h2, h3, h4, fun b hb hbA hbv => (h5 b hb hbA hbv).2⟩
/-- What a fresh search leaves. -/
structure Frsh (D : List Rl) (n : Nat) (T U : Nat → Prop) (atoms ends : List Nat) (k K : Nat) (S : SS) (b : Bool) (S' : SS) : Prop where
  b : b = false
  rk : RKx D n T U atoms ends ends.length (K + 1) S'
  val : S'.val = S.val
  src : ∀ a ∈ sg atoms ends k, S'.val.getD a 0 = 1 → 0 ≤ S'.source.getD a 0
def frsh (tu : TU D n T U) (hok : Okay n D) (hl : D.length + tot (D.map Rl.rd) ≤ 1048576) (hn : n ≤ 65536) (hp : Part n atoms ends) (h : RKx D n T U atoms ends ends.length K S) (hK : K ≤ 1000000) (hk : k < ends.length) :
    Srch D n k (lsS S (sg atoms ends k)) (Frsh D n T U atoms ends k K S) :=
  let X := srchOf tu hok hl hn (fun x hx => hp.mem_lt (List.mem_of_mem_take (sg_take hx))) (by have := h.lk; omega) (h.forgot hp hn hk).1 (show S.queue = [] from h.queue)
  { QA := X.QA, QB := X.QB, QC := X.QC, QD := X.QD, h0 := X.h0, hAn := X.hAn, hA1 := X.hA1, hA2 := X.hA2, hA3 := X.hA3, tAB := X.tAB, hBn := X.hBn, hB1 := X.hB1, hB2 := X.hB2, hB3 := X.hB3, hB4 := X.hB4, tBC := X.tBC, hCn := X.hCn, hC0 := X.hC0, hC1 := X.hC1, hC2 := X.hC2, tCD := X.tCD, hDn := X.hDn, hD1 := X.hD1, hD2 := X.hD2,
    tD := fun S' b hd => by
      have h1 := X.tD S' b hd
      have hb := h1.2.2 (h.forgot hp hn hk).2
      subst hb
      have h2 := h1.2.1 rfl
      have hv : ({ S' with lost := [] } : SS).val = S.val := h2.val
      refine ⟨rfl, h.next2 hok hp hk ⟨h2.core, h2.queue, h2.lost, h2.src, h2.frm, h2.lk0, h2.lk, h2.mq⟩ hv, hv, fun a ha hav => ?_⟩
      obtain ⟨ρ, hs⟩ := h2.src
      obtain ⟨r, hr, -⟩ := hs a ha hav
      rw [hr]
      exact Int.natCast_nonneg r }
/-- The first atoms of a component. -/
def sgTo (atoms ends : List Nat) (k i : Nat) : List Nat := (atoms.take i).drop (prevE ends k)
theorem sgTo_start : sgTo atoms ends k (prevE ends k) = [] := by
  unfold sgTo
  apply List.drop_eq_nil_of_le
  rw [List.length_take]
  omega
theorem sgTo_succ {i : Nat} (h1 : prevE ends k ≤ i) (h2 : i < atoms.length) : sgTo atoms ends k (i + 1) = sgTo atoms ends k i ++ [atoms.getD i 0] := by
  unfold sgTo
  have e : atoms.take (i + 1) = atoms.take i ++ [atoms.getD i 0] := by
    rw [List.take_add_one, List.getD_eq_getElem?_getD, List.getElem?_eq_getElem h2]
    rfl
  rw [e, List.drop_append_of_le_length (by rw [List.length_take]; omega)]
theorem sgTo_end : sgTo atoms ends k (ends.getD k 0) = sg atoms ends k := rfl
theorem sgTo_len (i : Nat) : (sgTo atoms ends k i).length ≤ atoms.length := by
  unfold sgTo
  rw [List.length_drop, List.length_take]
  omega
end
end Go.Proofs.Qxb6600121a
