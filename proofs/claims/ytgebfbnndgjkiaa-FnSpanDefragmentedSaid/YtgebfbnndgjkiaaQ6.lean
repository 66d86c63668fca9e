/- For every input FnSpanDefragmented returns true and leaves its arguments as they were. Conditions: none. -/
import Derived.Test.YtgebfbnndgjkiaaK4
set_option linter.unusedVariables false
set_option linter.unusedSimpArgs false
set_option linter.unusedSectionVars false
namespace Go.Proofs.Ytgebfbnndgjkiaa
open Go.Tess Go.ChangeShapes Go.WideShapes Go.ChangeAt Go.RowKit
set_option maxRecDepth 100000
theorem fnSpanDefragmented_lifted (os : Os) (started : os.Started) (H : Type) (enc : TypeId × Value → H) :
    ReturnsInHanded {} Try.checked os 6 .any (Rows.fnSpanDefragmentedSpec.pre6 enc Try.prog Try.f6 Rows.fnSpanDefragmentedRow.domain false) (Rows.fnSpanDefragmentedSpec.post enc Try.prog Try.f6 false true false false) := by
  refine law_lift started (by kernel_rfl) Try.func6
    (ChangeSpec.witness6 (enc := enc) (C := Try.checked) false ⟨#[], #[.slice none 0 0, .slice none 0 0], []⟩ 8 (by kernel_rfl) (by kernel_rfl) (by kernel_rfl) (by kernel_rfl)) rfl rfl (by kernel_rfl)
    (fun ds hl => by
      match ds, hl with
      | [a, b], _ => exact ⟨rfl, rfl, rfl⟩) ?_
  intro W args ds ps b0 hval hA
  obtain ⟨v0, v1, d0, d1, p0, p1, rfl, rfl, rfl, h0, h1⟩ := trodAll_two hA
  obtain ⟨a0, l0, c0, rfl⟩ := okWide_slice u_sl_spec_Span (hval 0 22 v0 rfl rfl)
  obtain ⟨_, h0⟩ := h0
  obtain ⟨x0, q0⟩ := open_spans (χ := ⟨W.tape, W.os, W.output⟩) (h := W.heap) (d := W.drawn) h0
  obtain ⟨a1, l1, c1, rfl⟩ := okWide_slice u_sl_spec_Step (hval 1 24 v1 rfl rfl)
  obtain ⟨_, h1⟩ := h1
  obtain ⟨x1, q1⟩ := open_steps (χ := ⟨W.tape, W.os, W.output⟩) (h := W.heap) (d := W.drawn) h1
  exact c_FnSpanDefragmented _ _ _ (all_low _) _ _ x0 x1 q0 q1
theorem fnSpanDefragmented_holds : Rows.FnSpanDefragmentedSaid :=
  OpenClaim.holds_of_wide 6 Try.f6 rfl rfl rfl rfl rfl rfl rfl ⟨rfl, rfl, rfl, rfl, rfl⟩ rfl rfl rfl rfl rfl (by kernel_rfl) Try.func6 (by kernel_rfl)
    (of_decide_eq_true (by kernel_rfl)) (by unfold Func.isWrapper; first | (rw [if_pos (by decide +kernel)]; kernel_rfl) | (rw [if_neg (by decide +kernel)]; exact ⟨rfl, rfl⟩))
    (fun os started H enc _ => fnSpanDefragmented_lifted os started H enc)
#print axioms fnSpanDefragmented_holds

end Go.Proofs.Ytgebfbnndgjkiaa
