/- For every input FnStripeKeysSteps returns true and leaves its arguments as they were. Conditions: none. -/
import Derived.Test.YtfgpjnhelpemcaaGreatK7
set_option linter.unusedVariables false
set_option linter.unusedSimpArgs false
set_option linter.unusedSectionVars false
namespace Go.Proofs.YtfgpjnhelpemcaaGreat
open Go.Tess Go.ChangeShapes Go.WideShapes Go.ChangeAt Go.RowKit
set_option maxRecDepth 100000
theorem fnStripeKeysSteps_lifted (os : Os) (started : os.Started) (H : Type) (enc : TypeId × Value → H) :
    ReturnsInHanded {} Tryz.checked os 5 .any (Rows.fnStripeKeysStepsSpec.pre6 enc Tryz.prog Tryz.f5 Rows.fnStripeKeysStepsRow.domain false) (Rows.fnStripeKeysStepsSpec.post enc Tryz.prog Tryz.f5 false true false false) := by
  refine law_lift started (by kernel_rfl) Tryz.func5
    (ChangeSpec.witness6 (enc := enc) (C := Tryz.checked) false ⟨#[], #[.slice none 0 0, .int .u8 0, .slice none 0 0, .bool false], []⟩ 8 (by kernel_rfl) (by kernel_rfl) (by kernel_rfl) (by kernel_rfl)) rfl rfl (by kernel_rfl)
    (fun ds hl => by
      match ds, hl with
      | [a, b, c, d], _ => exact ⟨rfl, rfl, rfl⟩) ?_
  intro W args ds ps b0 hval hA
  obtain ⟨v0, v1, v2, v3, d0, d1, d2, d3, p0, p1, p2, p3, rfl, rfl, rfl, h0, h1, h2, h3⟩ := trodAll_four hA
  obtain ⟨a0, l0, c0, rfl⟩ := okWide_slice u_sl_sl_spec_Span (hval 0 22 v0 rfl rfl)
  obtain ⟨_, h0⟩ := h0
  obtain ⟨x0, q0, g0, ac0, cc0, ee0, hcc0⟩ := open_levelsC (χ := ⟨W.tape, W.os, W.output⟩) (h := W.heap) (d := W.drawn) h0
  obtain ⟨x1, rfl, rfl, rfl, w1⟩ := open_int u_uint8 (hval 1 5 v1 rfl rfl) h1
  obtain ⟨a2, l2, c2, rfl⟩ := okWide_slice u_sl_uint64 (hval 2 23 v2 rfl rfl)
  obtain ⟨_, h2⟩ := h2
  obtain ⟨x2, q2⟩ := open_u64s (χ := ⟨W.tape, W.os, W.output⟩) (h := W.heap) (d := W.drawn) h2
  obtain ⟨x3, rfl⟩ := okWide_bool u_bool (hval 3 4 v3 rfl rfl)
  obtain ⟨x1, rfl⟩ := Int.eq_ofNat_of_zero_le (show 0 ≤ x1 by have := w1; simp [Lit.wf, IntKind.min, IntKind.max, IntKind.bits, IntKind.signed] at this; omega)
  exact c_FnStripeKeysSteps _ _ _ (all_low _) _ _ x0 x1 x2 x3 (by rintro _ _ _ e; injection e with e1 e2 e3; injection ee0 with f1 f2 f3; omega) (by have := w1; simp [Lit.wf, IntKind.min, IntKind.max, IntKind.bits, IntKind.signed] at this; omega) g0 q0 q2
theorem fnStripeKeysSteps_holds : Rows.FnStripeKeysStepsSaid :=
  OpenClaim.holds_of_wide 5 Tryz.f5 rfl rfl rfl rfl rfl rfl rfl ⟨rfl, rfl, rfl, rfl, rfl⟩ rfl rfl rfl rfl rfl (by kernel_rfl) Tryz.func5 (by kernel_rfl)
    (of_decide_eq_true (by kernel_rfl)) (by unfold Func.isWrapper; first | (rw [if_pos (by decide +kernel)]; kernel_rfl) | (rw [if_neg (by decide +kernel)]; exact ⟨rfl, rfl⟩))
    (fun os started H enc _ => fnStripeKeysSteps_lifted os started H enc)
#print axioms fnStripeKeysSteps_holds
end Go.Proofs.YtfgpjnhelpemcaaGreat
