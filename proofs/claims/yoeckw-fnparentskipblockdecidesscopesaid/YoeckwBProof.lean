/-
  'Rows.FnParentSkipBlockDecidesScopeSaid', PROVED: the row round the walk (Derived.Test.YoeckwLawB).
-/
import Derived.Test.YoeckwRows
import Derived.Test.YoeckwLawB
import Derived.ProofKit
import Derived.OpenShut
import Derived.ChangeOld
import Derived.Deep.Slices
namespace Go.Proofs.Yoeckw.fnParentSkipBlockDecidesScope
open Go.ChangeShapes Go.WideShapes Go.ChangeAt Go.RowKit Go.Deep
set_option linter.unusedVariables false

theorem own : ownKnob Eckg.prog.godebug = none := by kernel_rfl
theorem laidOut : laidOutB Eckg.prog = true := by kernel_rfl
theorem cells4 : Eckg.prog.cellsOf 4 = 1 := by kernel_rfl

set_option maxRecDepth 100000 in
theorem lifted (os : Os) (started : os.Started) (H : Type) (enc : TypeId × Value → H) :
    ReturnsInHanded {} Eckg.checked os 4 .any (Rows.fnParentSkipBlockDecidesScopeSpec.pre6 enc Eckg.prog Eckg.f4 Rows.fnParentSkipBlockDecidesScopeRow.domain false) (Rows.fnParentSkipBlockDecidesScopeSpec.post enc Eckg.prog Eckg.f4 false true false false) := by
  refine returnsInHanded_of_change (C := Eckg.checked) own started (by kernel_rfl) Eckg.func4
    (ChangeSpec.witness6 (enc := enc) (C := Eckg.checked) false ⟨#[], #[.slice none 0 0], []⟩ 8 (by kernel_rfl) (by kernel_rfl) (by kernel_rfl) (by kernel_rfl)) ?_
  intro W base args ds gs before hval0 hW hcnd _
  have hval : ∀ (j : Nat) t v, Eckg.f4.params[j]? = some t → args[j]? = some v → Value.okWide Eckg.prog W .any base t v := hval0
  have hW' := hW
  obtain ⟨p, q, hA0, hV, rfl, hfz, hnd⟩ := hW
  have hA : DataW.TrodAll enc Eckg.prog W 0 (fun _ => true) true Eckg.f4.params.toList args.toList ds p := hA0
  rw [Eckg.params4] at hA hval
  obtain ⟨v0, vs0, d0, ds0, p0, q0, hargs, rfl, rfl, h0, r0⟩ := trodAll_cons hA
  obtain ⟨rfl, rfl, rfl⟩ := trodAll_nil r0
  obtain rfl : args = #[v0] := by cases args; simp_all
  obtain ⟨rfl, rfl⟩ := trodVars_none hV
  obtain ⟨a0, len0, cap0, rfl⟩ := okWide_slice Eckg.underlying22 (hval 0 22 v0 rfl rfl)
  have k0 := h0
  have lt0 : ∀ x ∈ p0, x.block < W.heap.size := by obtain ⟨m, hm⟩ := k0; exact DataW.trod_lt m _ _ _ hm
  obtain ⟨V, hv⟩ : ∃ V : Nat → Bool, (a0 = none ∧ len0 = 0 ∧ cap0 = 0) ∨ ∃ a, a0 = some a ∧ ∀ i, i < len0 → W.cell? (a.add i) = some (.bool (V i)) := by
    obtain ⟨fuel, hf⟩ := h0
    rcases open_slice1 Eckg.underlying22 cells4 hf with ⟨hcs, _⟩ | ⟨a, len, cap, m, n, Vv, D, Pl, hcs, _, hl, hm, hmm, _, hcell⟩
    · simp [Value.cells] at hcs
      obtain ⟨rfl, rfl, rfl⟩ := hcs
      exact ⟨fun _ => false, .inl ⟨rfl, rfl, rfl⟩⟩
    · simp [Value.cells] at hcs
      obtain ⟨rfl, rfl, rfl⟩ := hcs
      refine ⟨fun i => match Vv i with | .bool b => b | _ => false, .inr ⟨a, rfl, fun i hi => ?_⟩⟩
      simp only [if_true] at hmm
      obtain ⟨h1, h2⟩ := hcell i (by omega)
      obtain ⟨b, hb, _⟩ := DataW.trod_bool Eckg.underlying4 h2
      simp only [List.cons.injEq, and_true] at hb
      show W.cell? _ = some (.bool (match Vv i with | .bool b => b | _ => false))
      rw [h1, hb]
  clear hA0 hval0
  refine (lawB_any a0 len0 cap0 V W hv).mono fun e W' ⟨he, bel⟩ => ?_
  subst he
  exact ⟨_, rfl, _, _, _, [], _, [], hW', trodAll_mk1 (shut_bool Eckg.underlying4 _), (trodAll_cons_mk (Below.trod laidOut (by kernel_rfl) (of_decide_eq_true (by kernel_rfl)) k0 bel lt0) trodAll_mk0), rfl, bel.frame _, fun h => by cases h⟩

theorem over : Rows.fnParentSkipBlockDecidesScopeRow.holds Eckg.pinned (OpenSpec.ofChange Rows.fnParentSkipBlockDecidesScopeSpec) :=
  OpenClaim.holds_of_wide 4 Eckg.f4 rfl rfl rfl rfl rfl rfl rfl ⟨rfl, rfl, rfl, rfl, rfl⟩ rfl rfl rfl rfl rfl (by kernel_rfl) Eckg.func4 (by kernel_rfl)
    (of_decide_eq_true (by kernel_rfl)) (by unfold Func.isWrapper; first | (rw [if_pos (by decide +kernel)]; kernel_rfl) | (rw [if_neg (by decide +kernel)]; exact ⟨rfl, rfl⟩))
    (fun os started H enc _ => lifted os started H enc)

end Go.Proofs.Yoeckw.fnParentSkipBlockDecidesScope
namespace Go.Proofs.Yoeckw
theorem parentSkipBlock_proved : Rows.FnParentSkipBlockDecidesScopeSaid := fnParentSkipBlockDecidesScope.over
end Go.Proofs.Yoeckw
