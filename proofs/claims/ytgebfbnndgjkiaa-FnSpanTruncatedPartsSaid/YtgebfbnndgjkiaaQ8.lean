/- For every input FnSpanTruncatedParts returns true and leaves its arguments as they were. Conditions: none. -/
import Derived.Test.YtgebfbnndgjkiaaK5
set_option linter.unusedVariables false
set_option linter.unusedSimpArgs false
set_option linter.unusedSectionVars false
namespace Go.Proofs.Ytgebfbnndgjkiaa
open Go.Tess Go.ChangeShapes Go.WideShapes Go.ChangeAt Go.RowKit
set_option maxRecDepth 100000
theorem fnSpanTruncatedParts_lifted (os : Os) (started : os.Started) (H : Type) (enc : TypeId × Value → H) :
    ReturnsInHanded {} Try.checked os 11 .any (Rows.fnSpanTruncatedPartsSpec.pre6 enc Try.prog Try.f11 Rows.fnSpanTruncatedPartsRow.domain false) (Rows.fnSpanTruncatedPartsSpec.post enc Try.prog Try.f11 false true false false) := by
  refine law_lift started (by kernel_rfl) Try.func11
    (ChangeSpec.witness6 (enc := enc) (C := Try.checked) false ⟨#[], #[.slice none 0 0, .string ByteArray.empty, .string ByteArray.empty, .string ByteArray.empty], []⟩ 8 (by kernel_rfl) (by kernel_rfl) (by kernel_rfl) (by kernel_rfl)) rfl rfl (by kernel_rfl)
    (fun ds hl => by
      match ds, hl with
      | [a, b, c, d], _ => exact ⟨rfl, rfl, rfl⟩) ?_
  intro W args ds ps b0 hval hA
  obtain ⟨v0, v1, v2, v3, d0, d1, d2, d3, p0, p1, p2, p3, rfl, rfl, rfl, h0, h1, h2, h3⟩ := trodAll_four hA
  obtain ⟨a0, l0, c0, rfl⟩ := okWide_slice u_sl_spec_Span (hval 0 22 v0 rfl rfl)
  obtain ⟨_, h0⟩ := h0
  obtain ⟨x0, q0⟩ := open_spans (χ := ⟨W.tape, W.os, W.output⟩) (h := W.heap) (d := W.drawn) h0
  obtain ⟨x1, rfl, rfl, rfl, w1⟩ := Go.ChangeMaps.open_string u_string (hval 1 9 v1 rfl rfl) h1
  obtain ⟨x2, rfl, rfl, rfl, w2⟩ := Go.ChangeMaps.open_string u_string (hval 2 9 v2 rfl rfl) h2
  obtain ⟨x3, rfl, rfl, rfl, w3⟩ := Go.ChangeMaps.open_string u_string (hval 3 9 v3 rfl rfl) h3
  exact c_FnSpanTruncatedParts _ _ _ (all_low _) _ x0 x1 x2 x3 q0
theorem fnSpanTruncatedParts_holds : Rows.FnSpanTruncatedPartsSaid :=
  OpenClaim.holds_of_wide 11 Try.f11 rfl rfl rfl rfl rfl rfl rfl ⟨rfl, rfl, rfl, rfl, rfl⟩ rfl rfl rfl rfl rfl (by kernel_rfl) Try.func11 (by kernel_rfl)
    (of_decide_eq_true (by kernel_rfl)) (by unfold Func.isWrapper; first | (rw [if_pos (by decide +kernel)]; kernel_rfl) | (rw [if_neg (by decide +kernel)]; exact ⟨rfl, rfl⟩))
    (fun os started H enc _ => fnSpanTruncatedParts_lifted os started H enc)
#print axioms fnSpanTruncatedParts_holds

end Go.Proofs.Ytgebfbnndgjkiaa
