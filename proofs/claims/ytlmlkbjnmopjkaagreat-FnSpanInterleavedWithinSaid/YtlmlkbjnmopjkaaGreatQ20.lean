/- For every input FnSpanInterleavedWithin returns true and leaves its arguments as they were. Conditions: none. -/
import Derived.Test.YtlmlkbjnmopjkaaGreatK6
set_option linter.unusedVariables false
set_option linter.unusedSimpArgs false
set_option linter.unusedSectionVars false
namespace Go.Proofs.YtlmlkbjnmopjkaaGreat
open Go.Tess Go.ChangeShapes Go.WideShapes Go.ChangeAt Go.RowKit
set_option maxRecDepth 100000
section
variable {P : Program} {H : Type} {enc : TypeId × Value → H} {w : World} {base : Nat}
theorem trod5 {spare held} {t0 t1 t2 t3 t4 : TypeId} {args : Array Value} {ds : List (DataW H)} {ps : List MemPlace} (h : DataW.TrodAll enc P w base spare held [t0, t1, t2, t3, t4] args.toList ds ps) :
    ∃ v0 v1 v2 v3 v4 d0 d1 d2 d3 d4 p0 p1 p2 p3 p4, args = #[v0, v1, v2, v3, v4] ∧ ds = [d0, d1, d2, d3, d4] ∧ ps = p0 ++ p1 ++ p2 ++ p3 ++ p4 ∧ DataW.Trod enc P w base spare held t0 v0 d0 p0 ∧ DataW.Trod enc P w base spare held t1 v1 d1 p1 ∧ DataW.Trod enc P w base spare held t2 v2 d2 p2 ∧ DataW.Trod enc P w base spare held t3 v3 d3 p3 ∧ DataW.Trod enc P w base spare held t4 v4 d4 p4 := by
  obtain ⟨v0, vs0, d0, ds0, p0, q0, hargs, rfl, rfl, hd0, hr0⟩ := trodAll_cons h
  obtain ⟨v1, vs1, d1, ds1, p1, q1, rfl, rfl, rfl, hd1, hr1⟩ := trodAll_cons hr0
  obtain ⟨v2, vs2, d2, ds2, p2, q2, rfl, rfl, rfl, hd2, hr2⟩ := trodAll_cons hr1
  obtain ⟨v3, vs3, d3, ds3, p3, q3, rfl, rfl, rfl, hd3, hr3⟩ := trodAll_cons hr2
  obtain ⟨v4, vs4, d4, ds4, p4, q4, rfl, rfl, rfl, hd4, hr4⟩ := trodAll_cons hr3
  obtain ⟨rfl, rfl, rfl⟩ := trodAll_nil hr4
  exact ⟨v0, v1, v2, v3, v4, d0, d1, d2, d3, d4, p0, p1, p2, p3, p4, by cases args; simp_all, rfl, by simp, hd0, hd1, hd2, hd3, hd4⟩
end
theorem fnSpanInterleavedWithin_lifted (os : Os) (started : os.Started) (H : Type) (enc : TypeId × Value → H) :
    ReturnsInHanded {} Tryz.checked os 3 .any (Rows.fnSpanInterleavedWithinSpec.pre6 enc Tryz.prog Tryz.f3 Rows.fnSpanInterleavedWithinRow.domain false) (Rows.fnSpanInterleavedWithinSpec.post enc Tryz.prog Tryz.f3 false true false false) := by
  refine law_lift started (by kernel_rfl) Tryz.func3
    (ChangeSpec.witness6 (enc := enc) (C := Tryz.checked) false ⟨#[], #[.slice none 0 0, .slice none 0 0, .agg #[.string ByteArray.empty, .bool false], .agg #[.string ByteArray.empty, .bool false], .slice none 0 0], []⟩ 8 (by kernel_rfl) (by kernel_rfl) (by kernel_rfl) (by kernel_rfl)) rfl rfl (by kernel_rfl)
    (fun ds hl => by
      match ds, hl with
      | [a, b, c, d, e], _ => exact ⟨rfl, rfl, rfl⟩) ?_
  intro W args ds ps b0 hval hA
  obtain ⟨v0, v1, v2, v3, v4, d0, d1, d2, d3, d4, p0, p1, p2, p3, p4, rfl, rfl, rfl, h0, h1, h2, h3, h4⟩ := trod5 hA
  obtain ⟨a0, l0, c0, rfl⟩ := okWide_slice u_sl_spec_Entry (hval 0 22 v0 rfl rfl)
  obtain ⟨_, h0⟩ := h0
  obtain ⟨x0, ea0, ec0, ee0, q0, qc0, qr0⟩ := open_ents (χ := ⟨W.tape, W.os, W.output⟩) (h := W.heap) (d := W.drawn) h0
  rw [ee0]
  obtain ⟨a1, l1, c1, rfl⟩ := okWide_slice u_sl_spec_Span (hval 1 23 v1 rfl rfl)
  obtain ⟨_, h1⟩ := h1
  obtain ⟨x1, q1, qr1⟩ := open_spansR (χ := ⟨W.tape, W.os, W.output⟩) (h := W.heap) (d := W.drawn) h1
  obtain ⟨x2, rfl⟩ := open_bound (hval 2 25 v2 rfl rfl) h2
  obtain ⟨x3, rfl⟩ := open_bound (hval 3 25 v3 rfl rfl) h3
  obtain ⟨a4, l4, c4, rfl⟩ := okWide_slice u_sl_spec_Step (hval 4 26 v4 rfl rfl)
  obtain ⟨_, h4⟩ := h4
  obtain ⟨x4, q4⟩ := open_steps (χ := ⟨W.tape, W.os, W.output⟩) (h := W.heap) (d := W.drawn) h4
  exact c_FnSpanInterleavedWithin _ _ _ (all_low _) q0 qc0 qr0 q1 qr1 q4
theorem fnSpanInterleavedWithin_holds : Rows.FnSpanInterleavedWithinSaid :=
  OpenClaim.holds_of_wide 3 Tryz.f3 rfl rfl rfl rfl rfl rfl rfl ⟨rfl, rfl, rfl, rfl, rfl⟩ rfl rfl rfl rfl rfl (by kernel_rfl) Tryz.func3 (by kernel_rfl)
    (of_decide_eq_true (by kernel_rfl)) (by unfold Func.isWrapper; first | (rw [if_pos (by decide +kernel)]; kernel_rfl) | (rw [if_neg (by decide +kernel)]; exact ⟨rfl, rfl⟩))
    (fun os started H enc _ => fnSpanInterleavedWithin_lifted os started H enc)
#print axioms fnSpanInterleavedWithin_holds
end Go.Proofs.YtlmlkbjnmopjkaaGreat
