/- For every input FnStripeKeysView returns true and leaves its arguments as they were. Conditions: none. -/
import Derived.Test.YtfgpjnhelpemcaaGreatK7
set_option linter.unusedVariables false
set_option linter.unusedSimpArgs false
set_option linter.unusedSectionVars false
namespace Go.Proofs.YtfgpjnhelpemcaaGreat
open Go.Tess Go.ChangeShapes Go.WideShapes Go.ChangeAt Go.RowKit
set_option maxRecDepth 100000
theorem fnStripeKeysView_lifted (os : Os) (started : os.Started) (H : Type) (enc : TypeId × Value → H) :
    ReturnsInHanded {} Tryz.checked os 7 .any (Rows.fnStripeKeysViewSpec.pre6 enc Tryz.prog Tryz.f7 Rows.fnStripeKeysViewRow.domain false) (Rows.fnStripeKeysViewSpec.post enc Tryz.prog Tryz.f7 false true false false) := by
  refine law_lift started (by kernel_rfl) Tryz.func7
    (ChangeSpec.witness6 (enc := enc) (C := Tryz.checked) false ⟨#[], #[.slice none 0 0, .slice none 0 0, .slice none 0 0, .string ByteArray.empty], []⟩ 8 (by kernel_rfl) (by kernel_rfl) (by kernel_rfl) (by kernel_rfl)) rfl rfl (by kernel_rfl)
    (fun ds hl => by
      match ds, hl with
      | [a, b, c, d], _ => exact ⟨rfl, rfl, rfl⟩) ?_
  intro W args ds ps b0 hval hA
  obtain ⟨v0, v1, v2, v3, d0, d1, d2, d3, p0, p1, p2, p3, rfl, rfl, rfl, h0, h1, h2, h3⟩ := trodAll_four hA
  obtain ⟨a0, l0, c0, rfl⟩ := okWide_slice u_sl_sl_spec_Span (hval 0 22 v0 rfl rfl)
  obtain ⟨_, h0⟩ := h0
  obtain ⟨x0, q0, g0⟩ := open_levels (χ := ⟨W.tape, W.os, W.output⟩) (h := W.heap) (d := W.drawn) h0
  obtain ⟨a1, l1, c1, rfl⟩ := okWide_slice u_sl_uint64 (hval 1 23 v1 rfl rfl)
  obtain ⟨_, h1⟩ := h1
  obtain ⟨x1, q1⟩ := open_u64s (χ := ⟨W.tape, W.os, W.output⟩) (h := W.heap) (d := W.drawn) h1
  obtain ⟨a2, l2, c2, rfl⟩ := okWide_slice u_sl_spec_SuffixValue (hval 2 44 v2 rfl rfl)
  obtain ⟨_, h2⟩ := h2
  obtain ⟨x2, q2, ac2, cc2, ee2, hcc2⟩ := open_svs (χ := ⟨W.tape, W.os, W.output⟩) (h := W.heap) (d := W.drawn) h2
  obtain ⟨x3, rfl, rfl, rfl, w3⟩ := Go.ChangeMaps.open_string u_string (hval 3 9 v3 rfl rfl) h3
  exact c_FnStripeKeysView _ _ _ (all_low _) _ _ _ x0 x1 x2 x3 (by rintro _ _ _ e; injection e with e1 e2 e3; injection ee2 with f1 f2 f3; omega) g0 q0 q1 q2
theorem fnStripeKeysView_holds : Rows.FnStripeKeysViewSaid :=
  OpenClaim.holds_of_wide 7 Tryz.f7 rfl rfl rfl rfl rfl rfl rfl ⟨rfl, rfl, rfl, rfl, rfl⟩ rfl rfl rfl rfl rfl (by kernel_rfl) Tryz.func7 (by kernel_rfl)
    (of_decide_eq_true (by kernel_rfl)) (by unfold Func.isWrapper; first | (rw [if_pos (by decide +kernel)]; kernel_rfl) | (rw [if_neg (by decide +kernel)]; exact ⟨rfl, rfl⟩))
    (fun os started H enc _ => fnStripeKeysView_lifted os started H enc)
#print axioms fnStripeKeysView_holds
end Go.Proofs.YtfgpjnhelpemcaaGreat
