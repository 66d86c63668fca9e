/- For every input FnSpanMasked returns true and leaves its arguments as they were. Conditions: none. -/
import Derived.Test.YtblhkgldhcbmeaaGreatK6
set_option linter.unusedVariables false
set_option linter.unusedSimpArgs false
set_option linter.unusedSectionVars false
namespace Go.Proofs.YtblhkgldhcbmeaaGreat
open Go.Tess Go.ChangeShapes Go.WideShapes Go.ChangeAt Go.RowKit
set_option maxRecDepth 100000
theorem fnSpanMasked_lifted (os : Os) (started : os.Started) (H : Type) (enc : TypeId × Value → H) :
    ReturnsInHanded {} Tryz.checked os 6 .any (Rows.fnSpanMaskedSpec.pre6 enc Tryz.prog Tryz.f6 Rows.fnSpanMaskedRow.domain false) (Rows.fnSpanMaskedSpec.post enc Tryz.prog Tryz.f6 false true false false) := by
  refine law_lift started (by kernel_rfl) Tryz.func6
    (ChangeSpec.witness6 (enc := enc) (C := Tryz.checked) false ⟨#[], #[.slice none 0 0, .slice none 0 0, .int .u64 0, .slice none 0 0], []⟩ 8 (by kernel_rfl) (by kernel_rfl) (by kernel_rfl) (by kernel_rfl)) rfl rfl (by kernel_rfl)
    (fun ds hl => by
      match ds, hl with
      | [a, b, c, d], _ => exact ⟨rfl, rfl, rfl⟩) ?_
  intro W args ds ps b0 hval hA
  obtain ⟨v0, v1, v2, v3, d0, d1, d2, d3, p0, p1, p2, p3, rfl, rfl, rfl, h0, h1, h2, h3⟩ := trodAll_four hA
  obtain ⟨a0, l0, c0, rfl⟩ := okWide_slice u_sl_spec_Entry (hval 0 22 v0 rfl rfl)
  obtain ⟨_, h0⟩ := h0
  obtain ⟨x0, ea0, ec0, ee0, q0, qc0, qr0⟩ := open_ents (χ := ⟨W.tape, W.os, W.output⟩) (h := W.heap) (d := W.drawn) h0
  rw [ee0]
  obtain ⟨a1, l1, c1, rfl⟩ := okWide_slice u_sl_spec_Span (hval 1 23 v1 rfl rfl)
  obtain ⟨_, h1⟩ := h1
  obtain ⟨x1, q1, qr1⟩ := open_spansR (χ := ⟨W.tape, W.os, W.output⟩) (h := W.heap) (d := W.drawn) h1
  obtain ⟨x2, rfl, rfl, rfl, w2⟩ := open_int u_uint64 (hval 2 45 v2 rfl rfl) h2
  obtain ⟨a3, l3, c3, rfl⟩ := okWide_slice u_sl_spec_Step (hval 3 24 v3 rfl rfl)
  obtain ⟨_, h3⟩ := h3
  obtain ⟨x3, q3⟩ := open_steps (χ := ⟨W.tape, W.os, W.output⟩) (h := W.heap) (d := W.drawn) h3
  exact c_FnSpanMasked _ _ _ (all_low _) q0 qr0 q1 qr1 q3
theorem fnSpanMasked_holds : Rows.FnSpanMaskedSaid :=
  OpenClaim.holds_of_wide 6 Tryz.f6 rfl rfl rfl rfl rfl rfl rfl ⟨rfl, rfl, rfl, rfl, rfl⟩ rfl rfl rfl rfl rfl (by kernel_rfl) Tryz.func6 (by kernel_rfl)
    (of_decide_eq_true (by kernel_rfl)) (by unfold Func.isWrapper; first | (rw [if_pos (by decide +kernel)]; kernel_rfl) | (rw [if_neg (by decide +kernel)]; exact ⟨rfl, rfl⟩))
    (fun os started H enc _ => fnSpanMasked_lifted os started H enc)
#print axioms fnSpanMasked_holds
end Go.Proofs.YtblhkgldhcbmeaaGreat
