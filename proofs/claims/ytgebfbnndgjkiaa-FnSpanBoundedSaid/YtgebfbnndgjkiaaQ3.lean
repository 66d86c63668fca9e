/- For every input FnSpanBounded returns true and leaves its arguments as they were. Conditions: none. -/
import Derived.Test.YtgebfbnndgjkiaaK5
set_option linter.unusedVariables false
set_option linter.unusedSimpArgs false
set_option linter.unusedSectionVars false
namespace Go.Proofs.Ytgebfbnndgjkiaa
open Go.Tess Go.ChangeShapes Go.WideShapes Go.ChangeAt Go.RowKit
set_option maxRecDepth 100000
theorem fnSpanBounded_lifted (os : Os) (started : os.Started) (H : Type) (enc : TypeId × Value → H) :
    ReturnsInHanded {} Try.checked os 4 .any (Rows.fnSpanBoundedSpec.pre6 enc Try.prog Try.f4 Rows.fnSpanBoundedRow.domain false) (Rows.fnSpanBoundedSpec.post enc Try.prog Try.f4 false true false false) := by
  refine law_lift started (by kernel_rfl) Try.func4
    (ChangeSpec.witness6 (enc := enc) (C := Try.checked) false ⟨#[], #[.slice none 0 0, .agg #[.string ByteArray.empty, .bool false], .agg #[.string ByteArray.empty, .bool false], .slice none 0 0], []⟩ 8 (by kernel_rfl) (by kernel_rfl) (by kernel_rfl) (by kernel_rfl)) rfl rfl (by kernel_rfl)
    (fun ds hl => by
      match ds, hl with
      | [a, b, c, d], _ => exact ⟨rfl, rfl, rfl⟩) ?_
  intro W args ds ps b0 hval hA
  obtain ⟨v0, v1, v2, v3, d0, d1, d2, d3, p0, p1, p2, p3, rfl, rfl, rfl, h0, h1, h2, h3⟩ := trodAll_four hA
  obtain ⟨a0, l0, c0, rfl⟩ := okWide_slice u_sl_spec_Span (hval 0 22 v0 rfl rfl)
  obtain ⟨_, h0⟩ := h0
  obtain ⟨x0, q0⟩ := open_spans (χ := ⟨W.tape, W.os, W.output⟩) (h := W.heap) (d := W.drawn) h0
  obtain ⟨x1, rfl⟩ := open_bound (hval 1 43 v1 rfl rfl) h1
  obtain ⟨x2, rfl⟩ := open_bound (hval 2 43 v2 rfl rfl) h2
  obtain ⟨a3, l3, c3, rfl⟩ := okWide_slice u_sl_spec_Step (hval 3 24 v3 rfl rfl)
  obtain ⟨_, h3⟩ := h3
  obtain ⟨x3, q3⟩ := open_steps (χ := ⟨W.tape, W.os, W.output⟩) (h := W.heap) (d := W.drawn) h3
  exact c_FnSpanBounded _ _ _ (all_low _) _ _ x0 x3 x1 x2 q0 q3
theorem fnSpanBounded_holds : Rows.FnSpanBoundedSaid :=
  OpenClaim.holds_of_wide 4 Try.f4 rfl rfl rfl rfl rfl rfl rfl ⟨rfl, rfl, rfl, rfl, rfl⟩ rfl rfl rfl rfl rfl (by kernel_rfl) Try.func4 (by kernel_rfl)
    (of_decide_eq_true (by kernel_rfl)) (by unfold Func.isWrapper; first | (rw [if_pos (by decide +kernel)]; kernel_rfl) | (rw [if_neg (by decide +kernel)]; exact ⟨rfl, rfl⟩))
    (fun os started H enc _ => fnSpanBounded_lifted os started H enc)
#print axioms fnSpanBounded_holds

end Go.Proofs.Ytgebfbnndgjkiaa
