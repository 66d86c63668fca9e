/- Twenty-fifth part: one answer that has been found; lists in canonical order. Conditions: those that each theorem names. -/
import Derived.Test.YtgebfbnndgjkiaaW24
set_option linter.unusedVariables false
set_option linter.unusedSimpArgs false
namespace Go.Proofs.Ytgebfbnndgjkiaa
open Go.Tess Go.RowKit
set_option maxRecDepth 100000
set_option maxHeartbeats 1000000

theorem c_spanFound (χ : Chi) (h : Heap) (A : Nat → Prop) (v : Value) (x : AnsD) (hk : RAnss A h v [x]) :
    Cl Try.prog χ 21 #[v] h (fun r h' => r = .bool x.ok ∧ Keep [] h h') := by
  obtain ⟨hlen, a, c, rfl, hx⟩ := hk.form
  rcases hx with e | ⟨b, o, rfl, hAb, hR⟩
  · cases e
  obtain ⟨kv, hc, _⟩ := hR 0 x rfl
  have g1 : decide ((([x] : List AnsD).length : Int) = 1) = true := rfl
  refine cl_intro Try.func21 rfl rfl rfl ?_
  have K : Keep [] h h := Keep.refl _ _
  refine tr_seq ?_
  refine tr_reg ?_
  refine rs_v (v_assign rfl) rfl ?_
  refine rs_nil ?_
  refine q_thn ?_
  refine tr_seq ?_
  refine tr_reg ?_
  refine rs_v (v_move rfl) rfl ?_
  refine rs_v (v_len u_sl_impl_SpanAnswer rfl) rfl ?_
  refine rs_v (v_eq rfl rfl) rfl ?_
  refine rs_v (v_move rfl) rfl ?_
  refine rs_gv rfl (lkb g1) (v_move rfl) rfl ?_
  refine rs_gv rfl (lkb g1) (v_indexAddrE (i := 0) u_sl_impl_SpanAnswer siz_impl_SpanAnswer rfl rfl rfl (by simp)) rfl ?_
  refine rs_gv rfl (lkb g1) (v_fieldAddr fa_impl_SpanAnswer_1 rfl) rfl ?_
  refine rs_gv rfl (lkb g1) (v_load one_bool rfl (by exact hc.at 1 rfl)) rfl ?_
  refine rs_v (v_pick_t (lkb g1) rfl) rfl ?_
  refine rs_v (v_assign rfl) rfl ?_
  refine rs_nil ?_
  refine q_thn ?_
  refine tr_ret ?_
  refine q_ret (res_tmp rfl rfl) ?_
  exact ⟨rfl, K⟩
end Go.Proofs.Ytgebfbnndgjkiaa
