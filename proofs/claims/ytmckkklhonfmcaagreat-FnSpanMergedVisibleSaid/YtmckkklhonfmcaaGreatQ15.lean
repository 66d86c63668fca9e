/- For every input FnSpanMergedVisible returns true and leaves its arguments as they were. Conditions: none. -/
import Derived.Test.YtmckkklhonfmcaaGreatK6
set_option linter.unusedVariables false
set_option linter.unusedSimpArgs false
set_option linter.unusedSectionVars false
namespace Go.Proofs.YtmckkklhonfmcaaGreat
open Go.Tess Go.ChangeShapes Go.WideShapes Go.ChangeAt Go.RowKit
set_option maxRecDepth 100000
theorem fnSpanMergedVisible_lifted (os : Os) (started : os.Started) (H : Type) (enc : TypeId × Value → H) :
    ReturnsInHanded {} Tryz.checked os 9 .any (Rows.fnSpanMergedVisibleSpec.pre6 enc Tryz.prog Tryz.f9 Rows.fnSpanMergedVisibleRow.domain false) (Rows.fnSpanMergedVisibleSpec.post enc Tryz.prog Tryz.f9 false true false false) := by
  refine law_lift started (by kernel_rfl) Tryz.func9
    (ChangeSpec.witness6 (enc := enc) (C := Tryz.checked) false ⟨#[], #[.slice none 0 0, .int .u64 0], []⟩ 8 (by kernel_rfl) (by kernel_rfl) (by kernel_rfl) (by kernel_rfl)) rfl rfl (by kernel_rfl)
    (fun ds hl => by
      match ds, hl with
      | [a, b], _ => exact ⟨rfl, rfl, rfl⟩) ?_
  intro W args ds ps b0 hval hA
  obtain ⟨v0, v1, d0, d1, p0, p1, rfl, rfl, rfl, h0, h1⟩ := trodAll_two hA
  obtain ⟨a0, l0, c0, rfl⟩ := okWide_slice u_sl_sl_spec_Span (hval 0 22 v0 rfl rfl)
  obtain ⟨_, h0⟩ := h0
  obtain ⟨x0, q0, g0⟩ := open_levels (χ := ⟨W.tape, W.os, W.output⟩) (h := W.heap) (d := W.drawn) h0
  obtain ⟨x1, rfl, rfl, rfl, w1⟩ := open_int u_uint64 (hval 1 35 v1 rfl rfl) h1
  obtain ⟨x1, rfl⟩ := Int.eq_ofNat_of_zero_le (wf64 w1).1
  exact c_FnSpanMergedVisible _ _ _ (all_low _) _ x0 x1 g0 q0
theorem fnSpanMergedVisible_holds : Rows.FnSpanMergedVisibleSaid :=
  OpenClaim.holds_of_wide 9 Tryz.f9 rfl rfl rfl rfl rfl rfl rfl ⟨rfl, rfl, rfl, rfl, rfl⟩ rfl rfl rfl rfl rfl (by kernel_rfl) Tryz.func9 (by kernel_rfl)
    (of_decide_eq_true (by kernel_rfl)) (by unfold Func.isWrapper; first | (rw [if_pos (by decide +kernel)]; kernel_rfl) | (rw [if_neg (by decide +kernel)]; exact ⟨rfl, rfl⟩))
    (fun os started H enc _ => fnSpanMergedVisible_lifted os started H enc)
#print axioms fnSpanMergedVisible_holds
end Go.Proofs.YtmckkklhonfmcaaGreat
