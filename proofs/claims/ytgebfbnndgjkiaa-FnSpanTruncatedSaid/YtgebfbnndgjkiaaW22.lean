/- Twenty-second part: impl.SpanFiltered. Conditions: those that each theorem names. -/
import Derived.Test.YtgebfbnndgjkiaaW21
set_option linter.unusedVariables false
set_option linter.unusedSimpArgs false
namespace Go.Proofs.Ytgebfbnndgjkiaa
open Go.Tess Go.RowKit
set_option maxRecDepth 100000
set_option maxHeartbeats 1000000
theorem fnS_shrink (low high : Int) {W : List SpanD} (hO : Tess.Ord W) : Shrink (ffS low high) W := by
  intro s s' hs hf
  unfold ffS at hf
  split at hf
  · cases hf
  · cases hf
    exact ⟨sle_refl _, hO.1 s hs, sle_refl _⟩
/-- The function of SpanFiltered's filter, with its two boxes. -/
def EnvS (bl bh : Nat) (low high : Int) : Heap → Prop := fun h => Blk h bl [.int .u64 low] 23 ∧ Blk h bh [.int .u64 high] 23

theorem c_Filter (χ : Chi) (h : Heap) (t : TypeId) (v0 : Value) (f : FuncId) (cap : Array Value) :
    Cl Try.prog χ 57 #[.iface t v0, .func (.func f) #[] cap, cmpF] h
      (fun r h' => r = .iface 183 (.pointer (some ⟨h.size, 0, none⟩)) ∧ Blk h' h.size [.iface t v0, .func (.func f) #[] cap, cmpF, .slice none 0 0, .slice none 0 0, .slice none 0 0, .int .i8 0] 185 ∧ Keep [] h h') := by
  unfold cmpF
  refine cl_intro Try.func57 rfl rfl rfl ?_
  have K : Keep [] h h := Keep.refl _ _
  refine tr_seq ?_
  refine tr_reg ?_
  refine rs_v (v_assign rfl) rfl ?_
  refine rs_nil ?_
  refine q_thn ?_
  refine tr_seq ?_
  refine tr_reg ?_
  refine rs_v (v_move rfl) rfl ?_
  refine rs_v (v_move rfl) rfl ?_
  refine rs_v (v_move rfl) rfl ?_
  refine rs_v (v_build3 rfl rfl rfl (bld_keyspan_filteringIter_0_1_2 _ _ _ _ _ _ _ _)) rfl ?_
  refine rs_w (w_newbox rfl) rfl ?_
  rintro _ h1 ⟨rfl, B1, K1, Z1⟩
  have S1 := K.1; have K := K.new0 K1
  refine rs_v (v_makeIface u_p_keyspan_filteringIter rfl) rfl ?_
  refine rs_v (v_assign rfl) rfl ?_
  refine rs_nil ?_
  refine q_thn ?_
  refine tr_ret ?_
  refine q_ret (res_tmp rfl rfl) ?_
  exact ⟨rfl, B1, K⟩

theorem fnS_ok (χ : Chi) (W : List SpanD) (hWn : ∀ s, s ∈ W → s.ks.length ≤ 100000) (bl bh : Nat) (low high : Int) : FnOK χ W (ffS low high) (.func (.func 55) #[] #[.pointer (some ⟨bl, 0, none⟩), .pointer (some ⟨bh, 0, none⟩)]) (fun b => b = bl ∨ b = bh) (EnvS bl bh low high) where
  form := ⟨_, [.pointer (some ⟨bl, 0, none⟩), .pointer (some ⟨bh, 0, none⟩)], rfl, ok_impl_SpanFiltered_c1, fun h Fin s bi oi c x0 x1 x2 sv0 ev0 kv0 kk n0 xs0 hl hin hbi B hcF O hx hE hg hmem => by
    have := c_fnS χ h Fin hl s bi oi hin hbi c x0 x1 x2 sv0 ev0 kv0 kk B hcF n0 xs0 O bl bh low high (fun x hm => ⟨(hx x hm).1, (hx x hm).2.1, fun e => (hx x hm).2.2 (.inl e), fun e => (hx x hm).2.2 (.inr e)⟩) hE.1 hE.2 (fun e => hg (.inl e.symm)) (fun e => hg (.inr e.symm)) (hWn s hmem)
    refine this.mono ?_
    rintro r h' ⟨e, sv, ev, kv, n, xs, h1, h2, h3, h4, h5⟩
    refine ⟨e, sv, ev, kv, n, xs, h1, h2, h3, h4, fun s' hs' => ?_⟩
    obtain ⟨g1, g2, g3, g4⟩ := h5 s' hs'
    exact ⟨g1.mono (fun b hb => .inl hb), g2.mono (fun b hb => .inl hb), g3, g4.mono fun c a hr => cPKey_st.mono _ _ _ _ _ (fun b hb => .inl hb) hr⟩⟩
  low := fun hE b hb => by
    rcases hb with rfl | rfl
    · exact hE.1.lt
    · exact hE.2.lt
  stab := fun hE hs _ => ⟨(hs bl (.inl rfl)).trans hE.1, (hs bh (.inr rfl)).trans hE.2⟩
end Go.Proofs.Ytgebfbnndgjkiaa
