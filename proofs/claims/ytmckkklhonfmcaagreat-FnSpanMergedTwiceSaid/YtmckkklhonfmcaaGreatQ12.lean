/- For every input FnSpanMergedTwice returns true and leaves its arguments as they were. Conditions: none. -/
import Derived.Test.YtmckkklhonfmcaaGreatK5
set_option linter.unusedVariables false
set_option linter.unusedSimpArgs false
set_option linter.unusedSectionVars false
namespace Go.Proofs.YtmckkklhonfmcaaGreat
open Go.Tess Go.ChangeShapes Go.WideShapes Go.ChangeAt Go.RowKit
set_option maxRecDepth 100000
theorem fnSpanMergedTwice_lifted (os : Os) (started : os.Started) (H : Type) (enc : TypeId × Value → H) :
    ReturnsInHanded {} Tryz.checked os 7 .any (Rows.fnSpanMergedTwiceSpec.pre6 enc Tryz.prog Tryz.f7 Rows.fnSpanMergedTwiceRow.domain false) (Rows.fnSpanMergedTwiceSpec.post enc Tryz.prog Tryz.f7 false true false false) := by
  refine law_lift started (by kernel_rfl) Tryz.func7
    (ChangeSpec.witness6 (enc := enc) (C := Tryz.checked) false ⟨#[], #[.slice none 0 0, .int .u8 0], []⟩ 8 (by kernel_rfl) (by kernel_rfl) (by kernel_rfl) (by kernel_rfl)) rfl rfl (by kernel_rfl)
    (fun ds hl => by
      match ds, hl with
      | [a, b], _ => exact ⟨rfl, rfl, rfl⟩) ?_
  intro W args ds ps b0 hval hA
  obtain ⟨v0, v1, d0, d1, p0, p1, rfl, rfl, rfl, h0, h1⟩ := trodAll_two hA
  obtain ⟨a0, l0, c0, rfl⟩ := okWide_slice u_sl_sl_spec_Span (hval 0 22 v0 rfl rfl)
  obtain ⟨_, h0⟩ := h0
  obtain ⟨x0, q0, g0⟩ := open_levels (χ := ⟨W.tape, W.os, W.output⟩) (h := W.heap) (d := W.drawn) h0
  obtain ⟨x1, rfl, rfl, rfl, w1⟩ := open_int u_uint8 (hval 1 5 v1 rfl rfl) h1
  obtain ⟨x1, rfl⟩ := Int.eq_ofNat_of_zero_le (show 0 ≤ x1 by have := w1; simp [Lit.wf, IntKind.min, IntKind.max, IntKind.bits, IntKind.signed] at this; omega)
  exact c_FnSpanMergedTwice _ _ _ (all_low _) _ x0 x1 (by have := w1; simp [Lit.wf, IntKind.min, IntKind.max, IntKind.bits, IntKind.signed] at this; omega) g0 q0
theorem fnSpanMergedTwice_holds : Rows.FnSpanMergedTwiceSaid :=
  OpenClaim.holds_of_wide 7 Tryz.f7 rfl rfl rfl rfl rfl rfl rfl ⟨rfl, rfl, rfl, rfl, rfl⟩ rfl rfl rfl rfl rfl (by kernel_rfl) Tryz.func7 (by kernel_rfl)
    (of_decide_eq_true (by kernel_rfl)) (by unfold Func.isWrapper; first | (rw [if_pos (by decide +kernel)]; kernel_rfl) | (rw [if_neg (by decide +kernel)]; exact ⟨rfl, rfl⟩))
    (fun os started H enc _ => fnSpanMergedTwice_lifted os started H enc)
#print axioms fnSpanMergedTwice_holds
end Go.Proofs.YtmckkklhonfmcaaGreat
