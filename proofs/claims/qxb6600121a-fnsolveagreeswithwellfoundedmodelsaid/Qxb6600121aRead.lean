/-
  FROM THE READING OF THE ARGUMENT TO WHERE IT LIES.
-/
import Derived.Test.Qxb6600121aData
import Derived.Deep.Slices
import Derived.Deep.Strs
import Derived.ProofKit
namespace Go.Proofs.Qxb6600121a
open Go Go.Proofs Go.Deep
theorem spot_of {w : World} {a : Addr} {v : Value} (h : w.cell? a = some v) : a.spot = none := by
  unfold World.cell? at h
  split at h
  · cases hs : a.spot with
    | none => rfl
    | some x => simp [hs] at h
  · cases h
theorem cel_of {w : World} {b o : Nat} {v : Value} (h : w.cell? ⟨b, o, none⟩ = some v) : cel w.heap b o = some v := by rw [← cell?_cel]; exact h
section
variable {H : Type} {enc : TypeId × Value → H} {w : World} {base : Nat} {spare : Nat → Bool} {held : Bool}
theorem ints_of_trod {fuel : Nat} {v : Value} {x : DataW H × List MemPlace} (h : DataW.trod enc Try.prog w base spare held fuel 27 [v] = some x) : ∃ xs, IntsAt w.heap (fun _ => True) v xs := by
  rcases open_slice1 Try.underlying27 (by kernel_rfl) h with ⟨h1, _⟩ | ⟨a, len, cap, m, n, V, D, Pl, h1, _, hl, hm, hmm, _, hx⟩
  · have : v = .slice none 0 0 := by simpa using h1
    subst this
    exact ⟨[], none, 0, rfl, Nat.le_refl _, fun _ => rfl, fun hp => by simp at hp⟩
  · have : v = .slice (some a) len cap := by simpa using h1
    subst this
    have hle : len ≤ m := by rw [hmm]; split <;> omega
    have hV : ∀ i, i < len → ∃ z, V i = .int .i64 z := by
      intro i hi
      obtain ⟨z, hz, _⟩ := DataW.trod_int Try.underlying3 (hx i (by omega)).2
      exact ⟨z, by simpa using hz⟩
    obtain ⟨z, hz⟩ := choose_lt (α := Int) (p := fun i z => V i = .int .i64 z) hV
    refine ⟨(List.range len).map z, some a, cap, by simp, by simpa using hl, fun h => (by cases h), fun hp => ?_⟩
    have hp' : 0 < len := by simpa using hp
    have hs : a.spot = none := by
      have := spot_of (hx 0 (by omega)).1
      simpa [Addr.add] using this
    obtain ⟨b, o, sp⟩ := a
    dsimp only at hs
    subst hs
    refine ⟨b, o, rfl, trivial, fun j hj => ?_⟩
    have hj' : j < len := by simpa using hj
    have h2 := (hx j (by omega)).1
    rw [add_none, hz j hj'] at h2
    rw [cel_of h2]
    simp [hj']
theorem rules_of_trod {fuel : Nat} {v : Value} {x : DataW H × List MemPlace} (h : DataW.trod enc Try.prog w base spare held fuel 22 [v] = some x) : ∃ rs, RulesAt w.heap (fun _ => True) v rs := by
  rcases open_slice Try.underlying22 h with ⟨h1, _⟩ | ⟨a, len, cap, m, n, D, Pl, h1, _, hl, hm, hmm, _, hx⟩
  · have : v = .slice none 0 0 := by simpa using h1
    subst this
    exact ⟨[], none, 0, rfl, Nat.le_refl _, fun _ => rfl, fun hp => by simp at hp⟩
  · have : v = .slice (some a) len cap := by simpa using h1
    subst this
    have hle : len ≤ m := by rw [hmm]; split <;> omega
    have hc3 : Try.prog.cellsOf 33 = 3 := by kernel_rfl
    have hc1 : Try.prog.cellsOf 3 = 1 := by kernel_rfl
    have hc27 : Try.prog.cellsOf 27 = 1 := by kernel_rfl
    rw [hc3] at hx
    have key : ∀ i, i < len → ∃ r : RD × Value × Value, w.cell? (a.add (i * 3)) = some (.int .i64 r.1.head) ∧ w.cell? (a.add (i * 3 + 1)) = some r.2.1 ∧ w.cell? (a.add (i * 3 + 2)) = some r.2.2 ∧ IntsAt w.heap (fun _ => True) r.2.1 r.1.all ∧ IntsAt w.heap (fun _ => True) r.2.2 r.1.unl := by
      intro i hi
      obtain ⟨cs', g1, g2⟩ := hx i (by omega)
      obtain ⟨_, hlen, hcell⟩ := World.cells?_some g1
      obtain ⟨y0, y1, y2, n2, _, _, t0, t1, t2⟩ := trod_struct3 Try.underlying33 g2
      match cs', hlen with
      | [c0, c1, c2], _ =>
        dsimp only at t0 t1 t2
        rw [hc1] at t0
        rw [hc27] at t1 t2
        simp only [List.drop_zero, List.take_succ_cons, List.take_zero, List.drop_succ_cons] at t0 t1 t2
        obtain ⟨z, hz, _⟩ := DataW.trod_int Try.underlying3 t0
        have hz' : c0 = .int .i64 z := by simpa using hz
        subst hz'
        obtain ⟨xs1, k1⟩ := ints_of_trod t1
        obtain ⟨xs2, k2⟩ := ints_of_trod t2
        have e0 := hcell 0 (by omega)
        have e1 := hcell 1 (by omega)
        have e2 := hcell 2 (by omega)
        rw [add_add] at e0 e1 e2
        exact ⟨(⟨z, xs1, xs2⟩, c1, c2), by simpa using e0, by simpa using e1, by simpa using e2, k1, k2⟩
    have inh0 : Inhabited (RD × Value × Value) := ⟨(rd0, .nilIface, .nilIface)⟩
    obtain ⟨R, hR⟩ := choose_lt (α := RD × Value × Value) (p := fun i r => w.cell? (a.add (i * 3)) = some (.int .i64 r.1.head) ∧ w.cell? (a.add (i * 3 + 1)) = some r.2.1 ∧ w.cell? (a.add (i * 3 + 2)) = some r.2.2 ∧ IntsAt w.heap (fun _ => True) r.2.1 r.1.all ∧ IntsAt w.heap (fun _ => True) r.2.2 r.1.unl) key
    refine ⟨(List.range len).map (fun i => (R i).1), some a, cap, by simp, by simpa using hl, fun h => (by cases h), fun hp => ?_⟩
    have hp' : 0 < len := by simpa using hp
    have hs : a.spot = none := by
      have := spot_of (hR 0 hp').1
      simpa [Addr.add] using this
    obtain ⟨b, o, sp⟩ := a
    dsimp only at hs
    subst hs
    refine ⟨b, o, rfl, trivial, fun i hi => ?_⟩
    have hi' : i < len := by simpa using hi
    obtain ⟨q0, q1, q2, q3, q4⟩ := hR i hi'
    rw [add_none] at q0 q1 q2
    have e : ((List.range len).map (fun i => (R i).1)).getD i rd0 = (R i).1 := by simp [hi']
    rw [e]
    exact ⟨cel_of q0, (R i).2.1, (R i).2.2, cel_of q1, cel_of q2, q3, q4⟩
end
end Go.Proofs.Qxb6600121a
