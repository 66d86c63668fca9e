/- For every input FnStripeKeysExact returns true and leaves its arguments as they were. Conditions: none. -/
import Derived.Test.YtfgpjnhelpemcaaGreatK7
set_option linter.unusedVariables false
set_option linter.unusedSimpArgs false
set_option linter.unusedSectionVars false
namespace Go.Proofs.YtfgpjnhelpemcaaGreat
open Go.Tess Go.ChangeShapes Go.WideShapes Go.ChangeAt Go.RowKit
set_option maxRecDepth 100000
theorem fnStripeKeysExact_lifted (os : Os) (started : os.Started) (H : Type) (enc : TypeId × Value → H) :
    ReturnsInHanded {} Tryz.checked os 3 .any (Rows.fnStripeKeysExactSpec.pre6 enc Tryz.prog Tryz.f3 Rows.fnStripeKeysExactRow.domain false) (Rows.fnStripeKeysExactSpec.post enc Tryz.prog Tryz.f3 false true false false) := by
  refine law_lift started (by kernel_rfl) Tryz.func3
    (ChangeSpec.witness6 (enc := enc) (C := Tryz.checked) false ⟨#[], #[.slice none 0 0, .slice none 0 0, .bool false, .slice none 0 0], []⟩ 8 (by kernel_rfl) (by kernel_rfl) (by kernel_rfl) (by kernel_rfl)) rfl rfl (by kernel_rfl)
    (fun ds hl => by
      match ds, hl with
      | [a, b, c, d], _ => exact ⟨rfl, rfl, rfl⟩) ?_
  intro W args ds ps b0 hval hA
  obtain ⟨v0, v1, v2, v3, d0, d1, d2, d3, p0, p1, p2, p3, rfl, rfl, rfl, h0, h1, h2, h3⟩ := trodAll_four hA
  obtain ⟨a0, l0, c0, rfl⟩ := okWide_slice u_sl_sl_spec_Span (hval 0 22 v0 rfl rfl)
  obtain ⟨_, h0⟩ := h0
  obtain ⟨x0, q0, g0⟩ := open_levels (χ := ⟨W.tape, W.os, W.output⟩) (h := W.heap) (d := W.drawn) h0
  obtain ⟨a1, l1, c1, rfl⟩ := okWide_slice u_sl_uint64 (hval 1 23 v1 rfl rfl)
  obtain ⟨_, h1⟩ := h1
  obtain ⟨x1, q1⟩ := open_u64s (χ := ⟨W.tape, W.os, W.output⟩) (h := W.heap) (d := W.drawn) h1
  obtain ⟨x2, rfl⟩ := okWide_bool u_bool (hval 2 4 v2 rfl rfl)
  obtain ⟨a3, l3, c3, rfl⟩ := okWide_slice u_sl_spec_Span (hval 3 24 v3 rfl rfl)
  obtain ⟨_, h3⟩ := h3
  obtain ⟨x3, q3⟩ := open_spans (χ := ⟨W.tape, W.os, W.output⟩) (h := W.heap) (d := W.drawn) h3
  exact c_FnStripeKeysExact _ _ _ (all_low _) _ _ _ x0 x1 x2 x3 g0 q0 q1 q3
theorem fnStripeKeysExact_holds : Rows.FnStripeKeysExactSaid :=
  OpenClaim.holds_of_wide 3 Tryz.f3 rfl rfl rfl rfl rfl rfl rfl ⟨rfl, rfl, rfl, rfl, rfl⟩ rfl rfl rfl rfl rfl (by kernel_rfl) Tryz.func3 (by kernel_rfl)
    (of_decide_eq_true (by kernel_rfl)) (by unfold Func.isWrapper; first | (rw [if_pos (by decide +kernel)]; kernel_rfl) | (rw [if_neg (by decide +kernel)]; exact ⟨rfl, rfl⟩))
    (fun os started H enc _ => fnStripeKeysExact_lifted os started H enc)
#print axioms fnStripeKeysExact_holds
end Go.Proofs.YtfgpjnhelpemcaaGreat
