/- For every input FnStripeKeysOne returns true and leaves its arguments as they were. Conditions: none. -/
import Derived.Test.YtfgpjnhelpemcaaGreatK7
set_option linter.unusedVariables false
set_option linter.unusedSimpArgs false
set_option linter.unusedSectionVars false
namespace Go.Proofs.YtfgpjnhelpemcaaGreat
open Go.Tess Go.ChangeShapes Go.WideShapes Go.ChangeAt Go.RowKit
set_option maxRecDepth 100000
theorem fnStripeKeysOne_lifted (os : Os) (started : os.Started) (H : Type) (enc : TypeId × Value → H) :
    ReturnsInHanded {} Tryz.checked os 4 .any (Rows.fnStripeKeysOneSpec.pre6 enc Tryz.prog Tryz.f4 Rows.fnStripeKeysOneRow.domain false) (Rows.fnStripeKeysOneSpec.post enc Tryz.prog Tryz.f4 false true false false) := by
  refine law_lift started (by kernel_rfl) Tryz.func4
    (ChangeSpec.witness6 (enc := enc) (C := Tryz.checked) false ⟨#[], #[.slice none 0 0, .slice none 0 0, .bool false], []⟩ 8 (by kernel_rfl) (by kernel_rfl) (by kernel_rfl) (by kernel_rfl)) rfl rfl (by kernel_rfl)
    (fun ds hl => by
      match ds, hl with
      | [a, b, c], _ => exact ⟨rfl, rfl, rfl⟩) ?_
  intro W args ds ps b0 hval hA
  obtain ⟨v0, v1, v2, d0, d1, d2, p0, p1, p2, rfl, rfl, rfl, h0, h1, h2⟩ := trodAll_three hA
  obtain ⟨a0, l0, c0, rfl⟩ := okWide_slice u_sl_sl_spec_Span (hval 0 22 v0 rfl rfl)
  obtain ⟨_, h0⟩ := h0
  obtain ⟨x0, q0, g0⟩ := open_levels (χ := ⟨W.tape, W.os, W.output⟩) (h := W.heap) (d := W.drawn) h0
  obtain ⟨a1, l1, c1, rfl⟩ := okWide_slice u_sl_uint64 (hval 1 23 v1 rfl rfl)
  obtain ⟨_, h1⟩ := h1
  obtain ⟨x1, q1⟩ := open_u64s (χ := ⟨W.tape, W.os, W.output⟩) (h := W.heap) (d := W.drawn) h1
  obtain ⟨x2, rfl⟩ := okWide_bool u_bool (hval 2 4 v2 rfl rfl)
  exact c_FnStripeKeysOne _ _ _ (all_low _) _ _ x0 x1 x2 g0 q0 q1
theorem fnStripeKeysOne_holds : Rows.FnStripeKeysOneSaid :=
  OpenClaim.holds_of_wide 4 Tryz.f4 rfl rfl rfl rfl rfl rfl rfl ⟨rfl, rfl, rfl, rfl, rfl⟩ rfl rfl rfl rfl rfl (by kernel_rfl) Tryz.func4 (by kernel_rfl)
    (of_decide_eq_true (by kernel_rfl)) (by unfold Func.isWrapper; first | (rw [if_pos (by decide +kernel)]; kernel_rfl) | (rw [if_neg (by decide +kernel)]; exact ⟨rfl, rfl⟩))
    (fun os started H enc _ => fnStripeKeysOne_lifted os started H enc)
#print axioms fnStripeKeysOne_holds
end Go.Proofs.YtfgpjnhelpemcaaGreat
