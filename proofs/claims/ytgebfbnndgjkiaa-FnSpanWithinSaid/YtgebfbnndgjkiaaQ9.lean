/- For every input FnSpanWithin returns true and leaves its arguments as they were. Conditions: none. -/
import Derived.Test.YtgebfbnndgjkiaaK4
set_option linter.unusedVariables false
set_option linter.unusedSimpArgs false
set_option linter.unusedSectionVars false
namespace Go.Proofs.Ytgebfbnndgjkiaa
open Go.Tess Go.ChangeShapes Go.WideShapes Go.ChangeAt Go.RowKit
set_option maxRecDepth 100000
section
variable {P : Program} {H : Type} {enc : TypeId × Value → H} {w : World} {base : Nat}
theorem trod6 {spare held} {t0 t1 t2 t3 t4 t5 : TypeId} {args : Array Value} {ds : List (DataW H)} {ps : List MemPlace} (h : DataW.TrodAll enc P w base spare held [t0, t1, t2, t3, t4, t5] args.toList ds ps) :
    ∃ v0 v1 v2 v3 v4 v5 d0 d1 d2 d3 d4 d5 p0 p1 p2 p3 p4 p5, args = #[v0, v1, v2, v3, v4, v5] ∧ ds = [d0, d1, d2, d3, d4, d5] ∧ ps = p0 ++ p1 ++ p2 ++ p3 ++ p4 ++ p5 ∧ DataW.Trod enc P w base spare held t0 v0 d0 p0 ∧ DataW.Trod enc P w base spare held t1 v1 d1 p1 ∧ DataW.Trod enc P w base spare held t2 v2 d2 p2 ∧ DataW.Trod enc P w base spare held t3 v3 d3 p3 ∧ DataW.Trod enc P w base spare held t4 v4 d4 p4 ∧ DataW.Trod enc P w base spare held t5 v5 d5 p5 := by
  obtain ⟨v0, vs0, d0, ds0, p0, q0, hargs, rfl, rfl, hd0, hr0⟩ := trodAll_cons h
  obtain ⟨v1, vs1, d1, ds1, p1, q1, rfl, rfl, rfl, hd1, hr1⟩ := trodAll_cons hr0
  obtain ⟨v2, vs2, d2, ds2, p2, q2, rfl, rfl, rfl, hd2, hr2⟩ := trodAll_cons hr1
  obtain ⟨v3, vs3, d3, ds3, p3, q3, rfl, rfl, rfl, hd3, hr3⟩ := trodAll_cons hr2
  obtain ⟨v4, vs4, d4, ds4, p4, q4, rfl, rfl, rfl, hd4, hr4⟩ := trodAll_cons hr3
  obtain ⟨v5, vs5, d5, ds5, p5, q5, rfl, rfl, rfl, hd5, hr5⟩ := trodAll_cons hr4
  obtain ⟨rfl, rfl, rfl⟩ := trodAll_nil hr5
  exact ⟨v0, v1, v2, v3, v4, v5, d0, d1, d2, d3, d4, d5, p0, p1, p2, p3, p4, p5, by cases args; simp_all, rfl, by simp, hd0, hd1, hd2, hd3, hd4, hd5⟩
end
theorem fnSpanWithin_lifted (os : Os) (started : os.Started) (H : Type) (enc : TypeId × Value → H) :
    ReturnsInHanded {} Try.checked os 9 .any (Rows.fnSpanWithinSpec.pre6 enc Try.prog Try.f9 Rows.fnSpanWithinRow.domain false) (Rows.fnSpanWithinSpec.post enc Try.prog Try.f9 false true false false) := by
  refine law_lift started (by kernel_rfl) Try.func9
    (ChangeSpec.witness6 (enc := enc) (C := Try.checked) false ⟨#[], #[.slice none 0 0, .string ByteArray.empty, .string ByteArray.empty, .agg #[.string ByteArray.empty, .int .u64 0, .string ByteArray.empty], .agg #[.string ByteArray.empty, .int .u64 0, .string ByteArray.empty], .slice none 0 0], []⟩ 8 (by kernel_rfl) (by kernel_rfl) (by kernel_rfl) (by kernel_rfl)) rfl rfl (by kernel_rfl)
    (fun ds hl => by
      match ds, hl with
      | [a, b, c, d, e, f], _ => exact ⟨rfl, rfl, rfl⟩) ?_
  intro W args ds ps b0 hval hA
  obtain ⟨v0, v1, v2, v3, v4, v5, d0, d1, d2, d3, d4, d5, p0, p1, p2, p3, p4, p5, rfl, rfl, rfl, h0, h1, h2, h3, h4, h5⟩ := trod6 hA
  obtain ⟨a0, l0, c0, rfl⟩ := okWide_slice u_sl_spec_Span (hval 0 22 v0 rfl rfl)
  obtain ⟨_, h0⟩ := h0
  obtain ⟨x0, q0⟩ := open_spans (χ := ⟨W.tape, W.os, W.output⟩) (h := W.heap) (d := W.drawn) h0
  obtain ⟨x1, rfl, rfl, rfl, w1⟩ := Go.ChangeMaps.open_string u_string (hval 1 9 v1 rfl rfl) h1
  obtain ⟨x2, rfl, rfl, rfl, w2⟩ := Go.ChangeMaps.open_string u_string (hval 2 9 v2 rfl rfl) h2
  obtain ⟨x3, rfl⟩ := open_entry (hval 3 81 v3 rfl rfl) h3
  obtain ⟨x4, rfl⟩ := open_entry (hval 4 81 v4 rfl rfl) h4
  obtain ⟨a5, l5, c5, rfl⟩ := okWide_slice u_sl_spec_Step (hval 5 24 v5 rfl rfl)
  obtain ⟨_, h5⟩ := h5
  obtain ⟨x5, q5⟩ := open_steps (χ := ⟨W.tape, W.os, W.output⟩) (h := W.heap) (d := W.drawn) h5
  exact c_FnSpanWithin _ _ _ (all_low _) _ _ x0 x5 x1 x2 x3 x4 q0 q5
theorem fnSpanWithin_holds : Rows.FnSpanWithinSaid :=
  OpenClaim.holds_of_wide 9 Try.f9 rfl rfl rfl rfl rfl rfl rfl ⟨rfl, rfl, rfl, rfl, rfl⟩ rfl rfl rfl rfl rfl (by kernel_rfl) Try.func9 (by kernel_rfl)
    (of_decide_eq_true (by kernel_rfl)) (by unfold Func.isWrapper; first | (rw [if_pos (by decide +kernel)]; kernel_rfl) | (rw [if_neg (by decide +kernel)]; exact ⟨rfl, rfl⟩))
    (fun os started H enc _ => fnSpanWithin_lifted os started H enc)
#print axioms fnSpanWithin_holds

end Go.Proofs.Ytgebfbnndgjkiaa
