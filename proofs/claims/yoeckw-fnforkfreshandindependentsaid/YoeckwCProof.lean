/-
  'Rows.FnForkFreshAndIndependentSaid', PROVED: the row round the walk (Derived.Test.YoeckwLawC).
-/
import Derived.Test.YoeckwRows
import Derived.Test.YoeckwLawC
import Derived.ProofKit
import Derived.OpenShut
import Derived.ChangeOld
namespace Go.Proofs.Yoeckw.fnForkFreshAndIndependent
open Go.ChangeShapes Go.WideShapes Go.ChangeAt Go.RowKit
set_option linter.unusedVariables false

theorem own : ownKnob Eckg.prog.godebug = none := by kernel_rfl

set_option maxRecDepth 100000 in
theorem lifted (os : Os) (started : os.Started) (H : Type) (enc : TypeId × Value → H) :
    ReturnsInHanded {} Eckg.checked os 5 .any (Rows.fnForkFreshAndIndependentSpec.pre6 enc Eckg.prog Eckg.f5 Rows.fnForkFreshAndIndependentRow.domain false) (Rows.fnForkFreshAndIndependentSpec.post enc Eckg.prog Eckg.f5 false true false false) := by
  refine returnsInHanded_of_change (C := Eckg.checked) own started (by kernel_rfl) Eckg.func5
    (ChangeSpec.witness6 (enc := enc) (C := Eckg.checked) false ⟨#[], #[.int .i64 0, .bool false, .bool false], []⟩ 8 (by kernel_rfl) (by kernel_rfl) (by kernel_rfl) (by kernel_rfl)) ?_
  intro W base args ds gs before hval0 hW hcnd _
  have hval : ∀ (j : Nat) t v, Eckg.f5.params[j]? = some t → args[j]? = some v → Value.okWide Eckg.prog W .any base t v := hval0
  have hW' := hW
  obtain ⟨p, q, hA0, hV, rfl, hfz, hnd⟩ := hW
  have hA : DataW.TrodAll enc Eckg.prog W 0 (fun _ => true) true Eckg.f5.params.toList args.toList ds p := hA0
  rw [Eckg.params5] at hA hval
  obtain ⟨v0, vs0, d0, ds0, p0, q0, hargs, rfl, rfl, h0, r0⟩ := trodAll_cons hA
  obtain ⟨v1, vs1, d1, ds1, p1, q1, rfl, rfl, rfl, h1, r1⟩ := trodAll_cons r0
  obtain ⟨v2, vs2, d2, ds2, p2, q2, rfl, rfl, rfl, h2, r2⟩ := trodAll_cons r1
  obtain ⟨rfl, rfl, rfl⟩ := trodAll_nil r2
  obtain rfl : args = #[v0, v1, v2] := by cases args; simp_all
  obtain ⟨rfl, rfl⟩ := trodVars_none hV
  obtain ⟨a0, rfl, rfl, rfl, w0⟩ := open_int Eckg.underlying3 (hval 0 3 v0 rfl rfl) h0
  obtain ⟨a1, rfl, rfl, rfl⟩ := open_bool Eckg.underlying4 (hval 1 4 v1 rfl rfl) h1
  obtain ⟨a2, rfl, rfl, rfl⟩ := open_bool Eckg.underlying4 (hval 2 4 v2 rfl rfl) h2
  clear hA0 hval0
  refine (lawC_any a0 a1 a2 W).mono fun e W' ⟨he, bel⟩ => ?_
  subst he
  exact ⟨_, rfl, _, _, _, [], _, [], hW', trodAll_mk1 (shut_bool Eckg.underlying4 _), (trodAll_cons_mk (shut_int Eckg.underlying3 w0) (trodAll_cons_mk (shut_bool Eckg.underlying4 _) (trodAll_cons_mk (shut_bool Eckg.underlying4 _) trodAll_mk0))), rfl, bel.frame _, fun h => by cases h⟩

theorem over : Rows.fnForkFreshAndIndependentRow.holds Eckg.pinned (OpenSpec.ofChange Rows.fnForkFreshAndIndependentSpec) :=
  OpenClaim.holds_of_wide 5 Eckg.f5 rfl rfl rfl rfl rfl rfl rfl ⟨rfl, rfl, rfl, rfl, rfl⟩ rfl rfl rfl rfl rfl (by kernel_rfl) Eckg.func5 (by kernel_rfl)
    (of_decide_eq_true (by kernel_rfl)) (by unfold Func.isWrapper; first | (rw [if_pos (by decide +kernel)]; kernel_rfl) | (rw [if_neg (by decide +kernel)]; exact ⟨rfl, rfl⟩))
    (fun os started H enc _ => lifted os started H enc)

end Go.Proofs.Yoeckw.fnForkFreshAndIndependent
namespace Go.Proofs.Yoeckw
theorem forkFresh_proved : Rows.FnForkFreshAndIndependentSaid := fnForkFreshAndIndependent.over
end Go.Proofs.Yoeckw
