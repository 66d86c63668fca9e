/- For every input FnSpanPrefixed returns true and leaves its arguments as they were. Conditions: none. -/
import Derived.Test.YtgebfbnndgjkiaaK6
set_option linter.unusedVariables false
set_option linter.unusedSimpArgs false
set_option linter.unusedSectionVars false
namespace Go.Proofs.Ytgebfbnndgjkiaa
open Go.Tess Go.ChangeShapes Go.WideShapes Go.ChangeAt Go.RowKit
set_option maxRecDepth 100000
section
variable {P : Program} {H : Type} {enc : TypeId × Value → H} {w : World} {base : Nat}
theorem trod5 {spare held} {t t' t'' t3 t4 : TypeId} {args : Array Value} {ds : List (DataW H)} {ps : List MemPlace} (h : DataW.TrodAll enc P w base spare held [t, t', t'', t3, t4] args.toList ds ps) :
    ∃ v v' v'' v3 v4 d d' d'' d3 d4 p p' p'' p3 p4, args = #[v, v', v'', v3, v4] ∧ ds = [d, d', d'', d3, d4] ∧ ps = p ++ p' ++ p'' ++ p3 ++ p4 ∧ DataW.Trod enc P w base spare held t v d p ∧ DataW.Trod enc P w base spare held t' v' d' p' ∧ DataW.Trod enc P w base spare held t'' v'' d'' p'' ∧ DataW.Trod enc P w base spare held t3 v3 d3 p3 ∧ DataW.Trod enc P w base spare held t4 v4 d4 p4 := by
  obtain ⟨v, vs, d, ds', p, q, hargs, rfl, rfl, hd, hrest⟩ := trodAll_cons h
  obtain ⟨v', vs', d', ds'', p', q', rfl, rfl, rfl, hd', hrest'⟩ := trodAll_cons hrest
  obtain ⟨v'', vs'', d'', ds''', p'', q'', rfl, rfl, rfl, hd'', hrest''⟩ := trodAll_cons hrest'
  obtain ⟨v3, vs3, d3, ds3, p3, q3, rfl, rfl, rfl, hd3, hrest3⟩ := trodAll_cons hrest''
  obtain ⟨v4, vs4, d4, ds4, p4, q4, rfl, rfl, rfl, hd4, hrest4⟩ := trodAll_cons hrest3
  obtain ⟨rfl, rfl, rfl⟩ := trodAll_nil hrest4
  exact ⟨v, v', v'', v3, v4, d, d', d'', d3, d4, p, p', p'', p3, p4, by cases args; simp_all, rfl, by simp, hd, hd', hd'', hd3, hd4⟩
end
theorem fnSpanPrefixed_lifted (os : Os) (started : os.Started) (H : Type) (enc : TypeId × Value → H) :
    ReturnsInHanded {} Try.checked os 5 .any (Rows.fnSpanPrefixedSpec.pre6 enc Try.prog Try.f5 Rows.fnSpanPrefixedRow.domain false) (Rows.fnSpanPrefixedSpec.post enc Try.prog Try.f5 false true false false) := by
  refine law_lift started (by kernel_rfl) Try.func5
    (ChangeSpec.witness6 (enc := enc) (C := Try.checked) false ⟨#[], #[.slice none 0 0, .string ByteArray.empty, .string ByteArray.empty, .bool false, .int .u8 0], []⟩ 8 (by kernel_rfl) (by kernel_rfl) (by kernel_rfl) (by kernel_rfl)) rfl rfl (by kernel_rfl)
    (fun ds hl => by
      match ds, hl with
      | [a, b, c, d, e], _ => exact ⟨rfl, rfl, rfl⟩) ?_
  intro W args ds ps b0 hval hA
  obtain ⟨v0, v1, v2, v3, v4, d0, d1, d2, d3, d4, p0, p1, p2, p3, p4, rfl, rfl, rfl, h0, h1, h2, h3, h4⟩ := trod5 hA
  obtain ⟨a0, l0, c0, rfl⟩ := okWide_slice u_sl_spec_Span (hval 0 22 v0 rfl rfl)
  obtain ⟨_, h0⟩ := h0
  obtain ⟨x0, q0⟩ := open_spans (χ := ⟨W.tape, W.os, W.output⟩) (h := W.heap) (d := W.drawn) h0
  obtain ⟨x1, rfl, rfl, rfl, w1⟩ := Go.ChangeMaps.open_string u_string (hval 1 9 v1 rfl rfl) h1
  obtain ⟨x2, rfl, rfl, rfl, w2⟩ := Go.ChangeMaps.open_string u_string (hval 2 9 v2 rfl rfl) h2
  obtain ⟨x3, rfl⟩ := okWide_bool u_bool (hval 3 4 v3 rfl rfl)
  obtain ⟨x4, rfl, rfl, rfl, w4⟩ := open_int u_uint8 (hval 4 5 v4 rfl rfl) h4
  exact c_FnSpanPrefixed _ _ _ (all_low _) _ x0 x1 x2 x3 x4 (by have := w4; simp [Lit.wf, IntKind.min, IntKind.max, IntKind.bits, IntKind.signed] at this; omega) (by have := w4; simp [Lit.wf, IntKind.min, IntKind.max, IntKind.bits, IntKind.signed] at this; omega) q0
theorem fnSpanPrefixed_holds : Rows.FnSpanPrefixedSaid :=
  OpenClaim.holds_of_wide 5 Try.f5 rfl rfl rfl rfl rfl rfl rfl ⟨rfl, rfl, rfl, rfl, rfl⟩ rfl rfl rfl rfl rfl (by kernel_rfl) Try.func5 (by kernel_rfl)
    (of_decide_eq_true (by kernel_rfl)) (by unfold Func.isWrapper; first | (rw [if_pos (by decide +kernel)]; kernel_rfl) | (rw [if_neg (by decide +kernel)]; exact ⟨rfl, rfl⟩))
    (fun os started H enc _ => fnSpanPrefixed_lifted os started H enc)
#print axioms fnSpanPrefixed_holds

end Go.Proofs.Ytgebfbnndgjkiaa
