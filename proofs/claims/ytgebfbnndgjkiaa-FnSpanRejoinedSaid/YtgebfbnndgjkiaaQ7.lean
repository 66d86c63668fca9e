/- For every input FnSpanRejoined returns true and leaves its arguments as they were. Conditions: none. -/
import Derived.Test.YtgebfbnndgjkiaaK4
set_option linter.unusedVariables false
set_option linter.unusedSimpArgs false
set_option linter.unusedSectionVars false
namespace Go.Proofs.Ytgebfbnndgjkiaa
open Go.Tess Go.ChangeShapes Go.WideShapes Go.ChangeAt Go.RowKit
set_option maxRecDepth 100000
section
variable {H : Type} {enc : TypeId × Value → H} {χ : Chi} {h : Heap} {d : Nat} {sp : Nat → Bool} {hd : Bool}
theorem open_strs2 {n : Nat} {v : Value} {x : DataW H × List MemPlace} (hx : DataW.trod enc Try.prog (mkw χ h d) 0 sp hd n 68 [v] = some x) : ∃ ks : List ByteArray, RStrs (All h) h v ks := by
  obtain ⟨ks, hk⟩ := sl_open (R := fun cs (k : ByteArray) => cs = [.string k]) u_sl_string (sz := 1) (by kernel_rfl) (by omega) (fun n cs x hx => by
    obtain ⟨s, e, _⟩ := DataW.trod_string u_string hx
    exact ⟨s, e⟩) hx
  exact ⟨ks, SlR.mono hk (fun _ h => h) fun b o x _ hc => by obtain ⟨cs, h1, rfl⟩ := hc; exact h1.at 0 rfl⟩
end
theorem fnSpanRejoined_lifted (os : Os) (started : os.Started) (H : Type) (enc : TypeId × Value → H) :
    ReturnsInHanded {} Try.checked os 7 .any (Rows.fnSpanRejoinedSpec.pre6 enc Try.prog Try.f7 Rows.fnSpanRejoinedRow.domain false) (Rows.fnSpanRejoinedSpec.post enc Try.prog Try.f7 false true false false) := by
  refine law_lift started (by kernel_rfl) Try.func7
    (ChangeSpec.witness6 (enc := enc) (C := Try.checked) false ⟨#[], #[.slice none 0 0, .slice none 0 0, .slice none 0 0], []⟩ 8 (by kernel_rfl) (by kernel_rfl) (by kernel_rfl) (by kernel_rfl)) rfl rfl (by kernel_rfl)
    (fun ds hl => by
      match ds, hl with
      | [a, b, c], _ => exact ⟨rfl, rfl, rfl⟩) ?_
  intro W args ds ps b0 hval hA
  obtain ⟨v0, v1, v2, d0, d1, d2, p0, p1, p2, rfl, rfl, rfl, h0, h1, h2⟩ := trodAll_three hA
  obtain ⟨a0, l0, c0, rfl⟩ := okWide_slice u_sl_spec_Span (hval 0 22 v0 rfl rfl)
  obtain ⟨_, h0⟩ := h0
  obtain ⟨x0, q0⟩ := open_spans (χ := ⟨W.tape, W.os, W.output⟩) (h := W.heap) (d := W.drawn) h0
  obtain ⟨a1, l1, c1, rfl⟩ := okWide_slice u_sl_string (hval 1 68 v1 rfl rfl)
  obtain ⟨_, h1⟩ := h1
  obtain ⟨x1, q1⟩ := open_strs2 (χ := ⟨W.tape, W.os, W.output⟩) (h := W.heap) (d := W.drawn) h1
  obtain ⟨a2, l2, c2, rfl⟩ := okWide_slice u_sl_spec_Step (hval 2 24 v2 rfl rfl)
  obtain ⟨_, h2⟩ := h2
  obtain ⟨x2, q2⟩ := open_steps (χ := ⟨W.tape, W.os, W.output⟩) (h := W.heap) (d := W.drawn) h2
  exact c_FnSpanRejoined _ _ _ (all_low _) _ _ _ x0 x1 x2 q0 q1 q2
theorem fnSpanRejoined_holds : Rows.FnSpanRejoinedSaid :=
  OpenClaim.holds_of_wide 7 Try.f7 rfl rfl rfl rfl rfl rfl rfl ⟨rfl, rfl, rfl, rfl, rfl⟩ rfl rfl rfl rfl rfl (by kernel_rfl) Try.func7 (by kernel_rfl)
    (of_decide_eq_true (by kernel_rfl)) (by unfold Func.isWrapper; first | (rw [if_pos (by decide +kernel)]; kernel_rfl) | (rw [if_neg (by decide +kernel)]; exact ⟨rfl, rfl⟩))
    (fun os started H enc _ => fnSpanRejoined_lifted os started H enc)
#print axioms fnSpanRejoined_holds

end Go.Proofs.Ytgebfbnndgjkiaa
