/-
  THE PLAIN LAW OF THE SOLVER (3b): an atom popped, an event met.
-/
import Derived.Test.Qxb6600121aLaw3
namespace Go.Proofs.Qxb6600121a
open Go
section
variable {D : List Rl} {n k : Nat} {A : List Nat} {T U : Nat → Prop} {S : SS} {evs : List (Nat × Bool)}
theorem Krn.pop (hok : Okay n D) (hA : ∀ x ∈ A, x < n) (h : Krn D n k A T U S []) {q : List Nat} {a : Nat} (hq : S.queue = q ++ [a]) : a < n ∧ Krn D n k A T U { S with queue := q } (evts D n S a) := by
  have ham : a ∈ S.queue := by rw [hq]; simp
  have hqa := h.qn a ham
  have hqs : ∀ x ∈ q, x ∈ S.queue := fun x hx => by rw [hq]; exact List.mem_append_left _ hx
  have hev : ∀ r, r < D.length → a ∈ (D.getD r rl0).all → S.val.getD a 0 = 0 → (r, false) ∈ evts D n S a := fun r hr hm hv => by
    refine List.mem_append_left _ (List.mem_map.2 ⟨r, (mem_idxU D n D.length (Nat.le_refl _) hok a r).2 ⟨hr, hm⟩, ?_⟩)
    rw [hv]; rfl
  have hev2 : ∀ r, r < D.length → a ∈ (D.getD r rl0).unl → S.val.getD a 0 = 2 → (r, false) ∈ evts D n S a := fun r hr hm hv => by
    refine List.mem_append_right _ (List.mem_map.2 ⟨r, (mem_idxE D n D.length (Nat.le_refl _) hok a r).2 ⟨hr, hm⟩, ?_⟩)
    rw [hv]; rfl
  refine ⟨hA a hqa.1, ⟨⟨h.len.nval, h.len.npart, h.len.nsource, h.len.nopn, h.len.nwait, h.len.nclosed, h.len.nneed⟩, h.prt, h.v3, fun x hx => h.qn x (hqs x hx), ?_, h.Z1, ?_, ?_, h.C, h.O, h.K1, ?_, h.wb, h.ob, h.nb, h.s2, h.s0, h.supp⟩⟩
  · intro r hr hc
    have hw := h.W r hr hc
    rw [hq, pendQ_snoc] at hw
    show S.wait.getD r 0 = ((waits D S r + pendQ D q r + cntE r (evts D n S a) : Nat) : Int)
    rw [hw, cntE_evts D n hok S a r hr.1]
    have : cntE r [] = 0 := rfl
    omega
  · intro r hr hc x hx he
    rcases h.Z2 r hr hc x hx he with h1 | h1
    · rw [hq] at h1
      rcases List.mem_append.1 h1 with h1 | h1
      · exact .inl h1
      · have hxa : x = a := by simpa using h1
        rw [hxa] at hx he
        exact .inr (hev r hr.1 hx he)
    · cases h1
  · intro r hr hc x hx he
    rcases h.Z3 r hr hc x hx he with h1 | h1
    · rw [hq] at h1
      rcases List.mem_append.1 h1 with h1 | h1
      · exact .inl h1
      · have hxa : x = a := by simpa using h1
        rw [hxa] at hx he
        exact .inr (hev2 r hr.1 hx he)
    · cases h1
  · intro e he
    have hv := h.v3 a (hA a hqa.1)
    rcases List.mem_append.1 he with he | he
    · obtain ⟨r, hr, rfl⟩ := List.mem_map.1 he
      obtain ⟨h1, h2⟩ := (mem_idxU D n D.length (Nat.le_refl _) hok a r).1 hr
      refine ⟨h1, fun hf => .inl ⟨a, h2, ?_⟩⟩
      have hf : ¬ S.val.getD a 0 = 2 := of_decide_eq_false hf
      have := hqa.2
      rcases hv with hv | hv | hv
      · exact hv
      · exact absurd hv this
      · exact absurd hv hf
    · obtain ⟨r, hr, rfl⟩ := List.mem_map.1 he
      obtain ⟨h1, h2⟩ := (mem_idxE D n D.length (Nat.le_refl _) hok a r).1 hr
      refine ⟨h1, fun hf => .inr ⟨a, h2, ?_⟩⟩
      have hf : (!decide (S.val.getD a 0 = 2)) = false := hf
      exact of_decide_eq_true (by simpa using hf)
theorem cntE_cons_ne {r r' : Nat} {m : Bool} (h : r ≠ r') : cntE r' ((r, m) :: evs) = cntE r' evs := by
  unfold cntE
  rw [List.countP_cons]
  simp [h]
theorem cntE_cons_self {r : Nat} {m : Bool} : cntE r ((r, m) :: evs) = cntE r evs + 1 := by
  unfold cntE
  rw [List.countP_cons]
  simp
theorem mem_evs_ne {r r' : Nat} {m m' : Bool} (h : (r', m') ∈ (r, m) :: evs) (hne : ¬ (r' = r ∧ m' = m)) : (r', m') ∈ evs := by
  rcases List.mem_cons.1 h with h1 | h1
  · exact absurd ⟨congrArg Prod.fst h1, congrArg Prod.snd h1⟩ hne
  · exact h1
theorem Krn.skip {r : Nat} {m : Bool} (h : Krn D n k A T U S ((r, m) :: evs)) (hs : ¬ (CR D A r ∧ S.closed.getD r false = false)) : Krn D n k A T U S evs := by
  have hne : ∀ r', CR D A r' → S.closed.getD r' false = false → r ≠ r' := fun r' h1 h2 e => hs (by rw [e]; exact ⟨h1, h2⟩)
  refine ⟨h.len, h.prt, h.v3, h.qn, ?_, h.Z1, ?_, ?_, h.C, h.O, h.K1, fun e he => h.Ev e (List.mem_cons_of_mem _ he), h.wb, h.ob, h.nb, h.s2, h.s0, h.supp⟩
  · intro r' hr hc
    rw [h.W r' hr hc, cntE_cons_ne (hne r' hr hc)]
  · intro r' hr hc x hx he
    rcases h.Z2 r' hr hc x hx he with h1 | h1
    · exact .inl h1
    · exact .inr (mem_evs_ne h1 (fun e => hne r' hr hc e.1.symm))
  · intro r' hr hc x hx he
    rcases h.Z3 r' hr hc x hx he with h1 | h1
    · exact .inl h1
    · exact .inr (mem_evs_ne h1 (fun e => hne r' hr hc e.1.symm))
theorem Krn.close (hok : Okay n D) (hA : ∀ x ∈ A, x < n) {r : Nat} (h : Krn D n k A T U S ((r, false) :: evs)) (hcr : CR D A r) (hc : S.closed.getD r false = false) :
    Krn D n k A T U (decO (closeF S r) (D.getD r rl0).head) evs := by
  have hrl : r < S.closed.length := by rw [h.len.nclosed]; exact hcr.1
  have hhn : (D.getD r rl0).head < n := hA _ hcr.2
  have hcs : (S.closed.set r true).getD r false = true := getD_set_eq _ _ _ _ hrl
  have hcn : ∀ x, x ≠ r → (S.closed.set r true).getD x false = S.closed.getD x false := fun x hx => getD_set_ne' _ _ _ _ _ (Ne.symm hx)
  have hne : ∀ x, (S.closed.set r true).getD x false = false → x ≠ r := fun x hx e => by rw [e, hcs] at hx; cases hx
  have hrb : r ∈ (idxH D n D.length).getD (D.getD r rl0).head [] := (mem_idxH D n D.length (Nat.le_refl _) hok _ _).2 ⟨hcr.1, rfl⟩
  have hop := countP_close _ S.closed r (nodup_idxH D n D.length (Nat.le_refl _) hok (D.getD r rl0).head) hrb hrl hc
  have hO := h.O _ hcr.2
  have hos : (S.opn.set (D.getD r rl0).head (S.opn.getD (D.getD r rl0).head 0 - 1)).getD (D.getD r rl0).head 0 = S.opn.getD (D.getD r rl0).head 0 - 1 := getD_set_eq _ _ _ _ (by rw [h.len.nopn]; exact hhn)
  have hon : ∀ x, x ≠ (D.getD r rl0).head → (S.opn.set (D.getD r rl0).head (S.opn.getD (D.getD r rl0).head 0 - 1)).getD x 0 = S.opn.getD x 0 := fun x hx => getD_set_ne' _ _ _ _ _ (Ne.symm hx)
  unfold openN at hO
  refine ⟨⟨h.len.nval, h.len.npart, h.len.nsource, ?_, h.len.nwait, ?_, h.len.nneed⟩, h.prt, h.v3, h.qn, ?_, ?_, ?_, ?_, ?_, ?_, ?_, fun e he => h.Ev e (List.mem_cons_of_mem _ he), h.wb, ?_, h.nb, h.s2, h.s0, h.supp⟩
  · show (S.opn.set _ _).length = n
    rw [List.length_set]; exact h.len.nopn
  · show (S.closed.set r true).length = D.length
    rw [List.length_set]; exact h.len.nclosed
  · intro r' hr hc'
    have hc' : (S.closed.set r true).getD r' false = false := hc'
    have hn := hne r' hc'
    rw [hcn r' hn] at hc'
    show S.wait.getD r' 0 = ((waits D S r' + pendQ D S.queue r' + cntE r' evs : Nat) : Int)
    rw [h.W r' hr hc', cntE_cons_ne (Ne.symm hn)]
  · intro r' hr hc'
    have hc' : (S.closed.set r true).getD r' false = false := hc'
    have hn := hne r' hc'
    rw [hcn r' hn] at hc'
    exact h.Z1 r' hr hc'
  · intro r' hr hc' x hx he
    have hc' : (S.closed.set r true).getD r' false = false := hc'
    have hn := hne r' hc'
    rw [hcn r' hn] at hc'
    rcases h.Z2 r' hr hc' x hx he with h1 | h1
    · exact .inl h1
    · exact .inr (mem_evs_ne h1 (fun e => hn e.1))
  · intro r' hr hc' x hx he
    have hc' : (S.closed.set r true).getD r' false = false := hc'
    have hn := hne r' hc'
    rw [hcn r' hn] at hc'
    rcases h.Z3 r' hr hc' x hx he with h1 | h1
    · exact .inl h1
    · exact .inr (mem_evs_ne h1 (fun e => hn e.1))
  · intro r' hr hc'
    have hc' : (S.closed.set r true).getD r' false = true := hc'
    by_cases hn : r' = r
    · subst hn
      exact .inr ((h.Ev _ (List.mem_cons_self ..)).2 rfl)
    · rw [hcn r' hn] at hc'
      exact h.C r' hr hc'
  · intro a ha
    show (S.opn.set (D.getD r rl0).head (S.opn.getD (D.getD r rl0).head 0 - 1)).getD a 0 = (((idxH D n D.length).getD a []).countP (fun x => !(S.closed.set r true).getD x false) : Nat)
    by_cases hah : a = (D.getD r rl0).head
    · subst hah
      rw [hos]
      omega
    · rw [hon a hah, h.O a ha]
      unfold openN
      congr 1
      apply List.countP_congr
      intro x hx
      have hxr : x ≠ r := fun e => hah (by rw [← e]; exact (((mem_idxH D n D.length (Nat.le_refl _) hok a x).1 hx).2).symm)
      rw [hcn x hxr]
  · intro r' hr hP hc' hw
    have hc' : (S.closed.set r true).getD r' false = false := hc'
    have hn := hne r' hc'
    rw [hcn r' hn] at hc'
    exact h.K1 r' hr hP hc' hw
  · intro a ha
    show 0 ≤ (S.opn.set (D.getD r rl0).head (S.opn.getD (D.getD r rl0).head 0 - 1)).getD a 0 ∧ (S.opn.set (D.getD r rl0).head (S.opn.getD (D.getD r rl0).head 0 - 1)).getD a 0 ≤ 2000000
    have := h.ob a ha
    by_cases hah : a = (D.getD r rl0).head
    · subst hah
      rw [hos]
      omega
    · rw [hon a hah]; exact this
theorem Krn.met {r : Nat} (h : Krn D n k A T U S ((r, true) :: evs)) (hcr : CR D A r) (hc : S.closed.getD r false = false) (hk : S.wait.getD r 0 - 1 = 0 → S.val.getD (D.getD r rl0).head 0 ≠ 1) : Krn D n k A T U (decW S r) evs := by
  have hrl : r < S.wait.length := by rw [h.len.nwait]; exact hcr.1
  have hws : (S.wait.set r (S.wait.getD r 0 - 1)).getD r 0 = S.wait.getD r 0 - 1 := getD_set_eq _ _ _ _ hrl
  have hwn : ∀ x, x ≠ r → (S.wait.set r (S.wait.getD r 0 - 1)).getD x 0 = S.wait.getD x 0 := fun x hx => getD_set_ne' _ _ _ _ _ (Ne.symm hx)
  have hW := h.W r hcr hc
  rw [cntE_cons_self] at hW
  refine ⟨⟨h.len.nval, h.len.npart, h.len.nsource, h.len.nopn, ?_, h.len.nclosed, h.len.nneed⟩, h.prt, h.v3, h.qn, ?_, h.Z1, ?_, ?_, h.C, h.O, ?_, fun e he => h.Ev e (List.mem_cons_of_mem _ he), ?_, h.ob, h.nb, h.s2, h.s0, h.supp⟩
  · show (S.wait.set _ _).length = D.length
    rw [List.length_set]; exact h.len.nwait
  · intro r' hr hc'
    show (S.wait.set r (S.wait.getD r 0 - 1)).getD r' 0 = ((waits D S r' + pendQ D S.queue r' + cntE r' evs : Nat) : Int)
    by_cases hn : r' = r
    · subst hn
      rw [hws]
      omega
    · rw [hwn r' hn, h.W r' hr hc', cntE_cons_ne (Ne.symm hn)]
  · intro r' hr hc' x hx he
    rcases h.Z2 r' hr hc' x hx he with h1 | h1
    · exact .inl h1
    · exact .inr (mem_evs_ne h1 (fun e => by cases e.2))
  · intro r' hr hc' x hx he
    rcases h.Z3 r' hr hc' x hx he with h1 | h1
    · exact .inl h1
    · exact .inr (mem_evs_ne h1 (fun e => by cases e.2))
  · intro r' hr hP hc' hw
    have hw : (S.wait.set r (S.wait.getD r 0 - 1)).getD r' 0 = 0 := hw
    by_cases hn : r' = r
    · subst hn
      rw [hws] at hw
      exact hk hw
    · rw [hwn r' hn] at hw
      exact h.K1 r' hr hP hc' hw
  · intro r' hr
    show 0 ≤ (S.wait.set r (S.wait.getD r 0 - 1)).getD r' 0 ∧ (S.wait.set r (S.wait.getD r 0 - 1)).getD r' 0 ≤ 2000000
    have := h.wb r' hr
    by_cases hn : r' = r
    · subst hn
      rw [hws]
      omega
    · rw [hwn r' hn]; exact this
/-- All of a rule's body is settled as it asks. -/
theorem Krn.sat {m : Bool} (hok : Okay n D) {r : Nat} (h : Krn D n k A T U S ((r, m) :: evs)) (hm : m = true) (hcr : CR D A r) (hc : S.closed.getD r false = false) (hw : S.wait.getD r 0 = 1) :
    (∀ b ∈ (D.getD r rl0).all, S.val.getD b 0 = 2) ∧ ∀ b ∈ (D.getD r rl0).unl, S.val.getD b 0 = 0 := by
  subst hm
  have hW := h.W r hcr hc
  rw [cntE_cons_self, hw] at hW
  have hwz : waits D S r = 0 := by omega
  have hpz : pendQ D S.queue r = 0 := by omega
  have hez : cntE r evs = 0 := by omega
  obtain ⟨h1, h2⟩ := waits_zero hwz
  have hoks := hok _ (getD_mem rl0 hcr.1)
  have noev : (r, false) ∉ (r, true) :: evs := fun e => by
    have := cntE_pos (mem_evs_ne e (fun e => by cases e.2))
    omega
  refine ⟨fun b hb => ?_, fun b hb => ?_⟩
  · rcases h.v3 b (hoks.2.1 b hb) with hv | hv | hv
    · rcases h.Z2 r hcr hc b hb hv with h3 | h3
      · have := pendQ_pos h3 (occ_all hb); omega
      · exact absurd h3 noev
    · exact absurd hv (h1 b hb)
    · exact hv
  · rcases h.v3 b (hoks.2.2 b hb) with hv | hv | hv
    · exact hv
    · exact absurd hv (h2 b hb)
    · rcases h.Z3 r hcr hc b hb hv with h3 | h3
      · have := pendQ_pos h3 (occ_unl hb); omega
      · exact absurd h3 noev
theorem Krn.holds (tu : TU D n T U) (hok : Okay n D) (h : Krn D n k A T U S evs) {r : Nat} (hr : r < D.length) (h1 : ∀ b ∈ (D.getD r rl0).all, S.val.getD b 0 = 2) (h2 : ∀ b ∈ (D.getD r rl0).unl, S.val.getD b 0 = 0) : T (D.getD r rl0).head := by
  have hoks := hok _ (getD_mem rl0 hr)
  exact tu.hT r hr (fun a ha => h.s2 a (hoks.2.1 a ha) (h1 a ha)) (fun b hb => h.s0 b (hoks.2.2 b hb) (h2 b hb))
/-- No rule of it is open. -/
theorem Krn.none (tu : TU D n T U) (hok : Okay n D) (hA : ∀ x ∈ A, x < n) (h : Krn D n k A T U S evs) {a : Nat} (ha : a ∈ A) (ho : S.opn.getD a 0 = 0) : ¬ U a := by
  have hO := h.O a ha
  rw [ho] at hO
  have hz : openN D n S a = 0 := by omega
  unfold openN at hz
  rw [List.countP_eq_zero] at hz
  refine tu.hU (fun x => x = a) (fun x hx => ⟨by rw [hx]; exact hA a ha, fun r hr hrh => ?_⟩) a rfl
  have hcl : S.closed.getD r false = true := by
    have := hz r ((mem_idxH D n D.length (Nat.le_refl _) hok a r).2 ⟨hr, by rw [hrh, hx]⟩)
    simpa using this
  have hoks := hok _ (getD_mem rl0 hr)
  rcases h.C r ⟨hr, by rw [hrh, hx]; exact ha⟩ hcl with h1 | ⟨b, hb, hv⟩ | ⟨b, hb, hv⟩
  · exact .inl ⟨_, h1, .inl (by rw [hrh, hx])⟩
  · exact .inl ⟨b, hb, .inr (h.s0 b (hoks.2.1 b hb) hv)⟩
  · exact .inr ⟨b, hb, h.s2 b (hoks.2.2 b hb) hv⟩
theorem decide_decW (S : SS) (a r : Nat) (t : Int) : decideF (decW S r) a t = decW (decideF S a t) r := by
  unfold decideF
  show (if S.val.getD a 0 = 1 then _ else _) = _
  split <;> rfl
theorem decide_wait (S : SS) (a : Nat) (t : Int) : (decideF S a t).wait = S.wait ∧ (decideF S a t).closed = S.closed ∧ (decideF S a t).part = S.part := by
  unfold decideF
  split <;> exact ⟨rfl, rfl, rfl⟩
theorem decide_val (S : SS) (a : Nat) (t : Int) (ht : t ≠ 1) (ha : a < S.val.length) : (decideF S a t).val.getD a 0 ≠ 1 := by
  unfold decideF
  split
  · show (S.val.set a t).getD a 0 ≠ 1
    rw [getD_set_eq _ _ _ _ ha]; exact ht
  · assumption
theorem Krn.meet (tu : TU D n T U) (hok : Okay n D) (hA : ∀ x ∈ A, x < n) {r : Nat} {m : Bool} (h : Krn D n k A T U S ((r, m) :: evs)) : Krn D n k A T U (meetF D k S r m) evs := by
  have hr : r < D.length := (h.Ev _ (List.mem_cons_self ..)).1
  have hhn : (D.getD r rl0).head < n := (hok _ (getD_mem rl0 hr)).1
  unfold meetF
  by_cases hs : S.part.getD (D.getD r rl0).head 0 ≠ (k : Int) ∨ S.closed.getD r false = true
  · rw [if_pos hs]
    refine h.skip (fun e => ?_)
    rcases hs with h1 | h1
    · exact h1 ((h.prt _ hhn).2 e.1.2)
    · rw [h1] at e; cases e.2
  · rw [if_neg hs]
    have hp : S.part.getD (D.getD r rl0).head 0 = (k : Int) := Decidable.byContradiction (fun e => hs (.inl e))
    have hc : S.closed.getD r false = false := by
      cases hcc : S.closed.getD r false with
      | false => rfl
      | true => exact absurd (.inr hcc) hs
    have hcr : CR D A r := ⟨hr, (h.prt _ hhn).1 hp⟩
    by_cases hm : m = false
    · rw [if_pos hm]
      subst hm
      have h1 := h.close hok hA hcr hc
      have h2 : Krn D n k A T U (decO (loseIf (closeF S r) (D.getD r rl0).head r) (D.getD r rl0).head) evs := by
        unfold loseIf
        split
        · exact h1.src _ (by show (S.source.set _ _).length = n; rw [List.length_set]; exact h.len.nsource) _
        · exact h1
      unfold refIf
      split
      · rename_i ho
        exact h2.dec hA hcr.2 (.inl rfl) (fun _ => h2.none tu hok hA hcr.2 ho) (fun e => by cases e)
      · exact h2
    · rw [if_neg hm]
      have hm : m = true := by cases m <;> simp_all
      unfold prvIf
      have hws : (decW S r).wait.getD r 0 = S.wait.getD r 0 - 1 := getD_set_eq _ _ _ _ (by rw [h.len.nwait]; exact hr)
      rw [hws]
      split
      · rename_i hz
        rw [decide_decW]
        obtain ⟨k1, k2⟩ := h.sat hok hm hcr hc (by omega)
        have h1 := h.dec hA hcr.2 (.inr rfl) (fun e => by cases e) (fun _ => ⟨h.holds tu hok hr k1 k2, r, hr, rfl, k1, k2⟩)
        have hd := decide_wait S (D.getD r rl0).head 2
        subst hm
        exact Krn.met h1 hcr (by rw [hd.2.1]; exact hc) (fun _ => decide_val S _ 2 (by decide) (by rw [h.len.nval]; exact hhn))
      · rename_i hz
        subst hm
        exact h.met hcr hc (fun e => absurd e hz)
end
end Go.Proofs.Qxb6600121a
