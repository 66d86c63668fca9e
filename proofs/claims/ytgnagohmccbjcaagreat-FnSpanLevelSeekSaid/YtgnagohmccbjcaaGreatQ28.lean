/- For every input FnSpanLevelSeek returns true and leaves its arguments as they were. Conditions: none. -/
import Derived.Test.YtgnagohmccbjcaaGreatK6
set_option linter.unusedVariables false
set_option linter.unusedSimpArgs false
set_option linter.unusedSectionVars false
namespace Go.Proofs.YtgnagohmccbjcaaGreat
open Go.Tess Go.ChangeShapes Go.WideShapes Go.ChangeAt Go.RowKit
set_option maxRecDepth 100000
theorem fnSpanLevelSeek_lifted (os : Os) (started : os.Started) (H : Type) (enc : TypeId × Value → H) :
    ReturnsInHanded {} Tryz.checked os 6 .any (Rows.fnSpanLevelSeekSpec.pre6 enc Tryz.prog Tryz.f6 Rows.fnSpanLevelSeekRow.domain false) (Rows.fnSpanLevelSeekSpec.post enc Tryz.prog Tryz.f6 false true false false) := by
  refine law_lift started (by kernel_rfl) Tryz.func6
    (ChangeSpec.witness6 (enc := enc) (C := Tryz.checked) false ⟨#[], #[.slice none 0 0, .bool false, .string ByteArray.empty], []⟩ 8 (by kernel_rfl) (by kernel_rfl) (by kernel_rfl) (by kernel_rfl)) rfl rfl (by kernel_rfl)
    (fun ds hl => by
      match ds, hl with
      | [a, b, c], _ => exact ⟨rfl, rfl, rfl⟩) ?_
  intro W args ds ps b0 hval hA
  obtain ⟨v0, v1, v2, d0, d1, d2, p0, p1, p2, rfl, rfl, rfl, h0, h1, h2⟩ := trodAll_three hA
  obtain ⟨a0, l0, c0, rfl⟩ := okWide_slice u_sl_sl_spec_Span (hval 0 22 v0 rfl rfl)
  obtain ⟨_, h0⟩ := h0
  obtain ⟨x0, q0, g0⟩ := open_levels (χ := ⟨W.tape, W.os, W.output⟩) (h := W.heap) (d := W.drawn) h0
  obtain ⟨x1, rfl⟩ := okWide_bool u_bool (hval 1 4 v1 rfl rfl)
  obtain ⟨x2, rfl, rfl, rfl, w2⟩ := Go.ChangeMaps.open_string u_string (hval 2 9 v2 rfl rfl) h2
  exact c_FnSpanLevelSeek _ _ _ (all_low _) _ x0 x1 x2 g0 q0
theorem fnSpanLevelSeek_holds : Rows.FnSpanLevelSeekSaid :=
  OpenClaim.holds_of_wide 6 Tryz.f6 rfl rfl rfl rfl rfl rfl rfl ⟨rfl, rfl, rfl, rfl, rfl⟩ rfl rfl rfl rfl rfl (by kernel_rfl) Tryz.func6 (by kernel_rfl)
    (of_decide_eq_true (by kernel_rfl)) (by unfold Func.isWrapper; first | (rw [if_pos (by decide +kernel)]; kernel_rfl) | (rw [if_neg (by decide +kernel)]; exact ⟨rfl, rfl⟩))
    (fun os started H enc _ => fnSpanLevelSeek_lifted os started H enc)
#print axioms fnSpanLevelSeek_holds
end Go.Proofs.YtgnagohmccbjcaaGreat
