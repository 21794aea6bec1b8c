/-
  The statement. Walks written by program (wip/gen).
-/
import Derived.Test.Qxb6600121aRows
import Derived.WalkKit
import Derived.ProofKit
import Derived.OpenShut
import Derived.ShutString
import Derived.ChangeOld
import Derived.Below
import Derived.Test.Qxb6600121aRead
import Derived.Test.Qxb6600121aFacts
import Derived.Test.Qxb6600121aW6
namespace Go.Proofs.Qxb6600121a
open Go Go.Proofs
set_option linter.unusedVariables false
set_option linter.unusedSimpArgs false

open Go.ChangeShapes Go.WideShapes Go.ChangeAt Go.RowKit
theorem own6 : ownKnob Try.prog.godebug = none := by kernel_rfl
theorem laidOut6 : laidOutB Try.prog = true := by kernel_rfl
set_option maxRecDepth 100000 in
theorem lifted6 (os : Os) (started : os.Started) (H : Type) (enc : TypeId × Value → H) :
    ReturnsInHanded {} Try.checked os 6 .any (Rows.fnSolveAgreesWithWellFoundedModelSpec.pre6 enc Try.prog Try.f6 Rows.fnSolveAgreesWithWellFoundedModelRow.domain false) (Rows.fnSolveAgreesWithWellFoundedModelSpec.post enc Try.prog Try.f6 false true false false) := by
  refine returnsInHanded_of_change (C := Try.checked) own6 started (by kernel_rfl) Try.func6
    (ChangeSpec.witness6 (enc := enc) (C := Try.checked) false ⟨#[], #[.int .i64 0, .slice none 0 0], []⟩ 8 (by kernel_rfl) (by kernel_rfl) (by kernel_rfl) (by kernel_rfl)) ?_
  intro W base args ds gs before hval0 hW hcnd _
  have hval : ∀ (j : Nat) t v, Try.f6.params[j]? = some t → args[j]? = some v → Value.okWide Try.prog W .any base t v := hval0
  have hW' := hW
  obtain ⟨p, q, hA0, hV, rfl, hfz, hnd⟩ := hW
  have hA : DataW.TrodAll enc Try.prog W 0 (fun _ => true) true Try.f6.params.toList args.toList ds p := hA0
  rw [Try.params6] at hA hval
  obtain ⟨v0, vs0, d0, ds0, p0, q0, hargs, rfl, rfl, h0, r0⟩ := trodAll_cons hA
  obtain ⟨v1, vs1, d1, ds1, p1, q1, rfl, rfl, rfl, h1, r1⟩ := trodAll_cons r0
  obtain ⟨rfl, rfl, rfl⟩ := trodAll_nil r1
  obtain rfl : args = #[v0, v1] := by cases args; simp_all
  obtain ⟨rfl, rfl⟩ := trodVars_none hV
  obtain ⟨a0, rfl, rfl, rfl, w0⟩ := open_int Try.underlying3 (hval 0 3 v0 rfl rfl) h0
  obtain ⟨a1, len1, cap1, rfl⟩ := okWide_slice Try.underlying22 (hval 1 22 v1 rfl rfl)
  have k1 := h1
  have lt1 : ∀ x ∈ p1, x.block < W.heap.size := by obtain ⟨m, hm⟩ := k1; exact DataW.trod_lt m _ _ _ hm
  obtain ⟨rs, hrs⟩ : ∃ rs, RulesAt W.heap (fun _ => True) (.slice a1 len1 cap1) rs := by
    obtain ⟨fuel, hf⟩ := h1
    exact rules_of_trod (by simpa [Value.cells] using hf)
  clear hA0 hval0
  refine ((solveLaw W (fun _ => True) a0 _ rs hrs) W (Sim.refl W)).mono fun e W' he => ?_
  obtain ⟨v, rfl, w2, hs, rfl, hfr⟩ := he
  have bel : Below W.heap.size W W' := (Fr.trans (hfr.mono (fun k hk h => h.elim)) (Fr.sim hs)).below (Nat.le_refl _)
  exact ⟨_, rfl, _, _, _, [], _, [], hW', trodAll_mk1 (shut_bool Try.underlying4 _), (trodAll_cons_mk (shut_int Try.underlying3 w0) (trodAll_cons_mk (Below.trod laidOut6 (by kernel_rfl) (of_decide_eq_true (by kernel_rfl)) k1 bel lt1) trodAll_mk0)), rfl, bel.frame _, fun h => by cases h⟩
theorem closed6 : joinedFacts Try.prog 6 Try.f6 Rows.fnSolveAgreesWithWellFoundedModelSpec Rows.fnSolveAgreesWithWellFoundedModelRow = true := by
  unfold joinedFacts
  rw [headEnter, headLifted, headMake]
  kernel_rfl
theorem over6 : Rows.fnSolveAgreesWithWellFoundedModelRow.holds Try.pinned (OpenSpec.ofChange Rows.fnSolveAgreesWithWellFoundedModelSpec) :=
  OpenClaim.holds_of_wide 6 Try.f6 rfl rfl rfl rfl rfl rfl rfl ⟨rfl, rfl, rfl, rfl, rfl⟩ rfl rfl rfl rfl rfl (by kernel_rfl) Try.func6 closed6
    (of_decide_eq_true (by kernel_rfl)) (by unfold Func.isWrapper; first | (rw [if_pos (by decide +kernel)]; kernel_rfl) | (rw [if_neg (by decide +kernel)]; exact ⟨rfl, rfl⟩))
    (fun os started H enc _ => lifted6 os started H enc)
/-- THE STATEMENT -/
theorem solveAgreesWithWellFoundedModel : Rows.FnSolveAgreesWithWellFoundedModelSaid := over6

end Go.Proofs.Qxb6600121a
