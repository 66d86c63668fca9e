/- Walks, seventh part: whole spans, from the specification's to the package's form and back. Conditions: those that each theorem names. -/
import Derived.Test.YtgebfbnndgjkiaaW6
set_option linter.unusedVariables false
set_option linter.unusedSimpArgs false
namespace Go.Proofs.Ytgebfbnndgjkiaa
open Go.Tess Go.RowKit
set_option maxRecDepth 100000
theorem upk {A : Nat → Prop} {h h1 h2 : Heap} {v : Value} {ks : List KeyD} (hA : Low A h) (k0 : h.size ≤ h1.size) (hr : RKeys (Up A h h1) h1 v ks) (K : Keep [] h1 h2) : RKeys (Up A h h2) h2 v ks :=
  (hr.stab (K.st (hA.up k0))).mono (Up.grow K.1)

theorem c_toSpan (χ : Chi) (h : Heap) (A : Nat → Prop) (hA : Low A h) (s : SpanD) (kv : Value) (hks : RKeys A h kv s.ks) (hn : s.ks.length ≤ 100000) :
    Cl Try.prog χ 60 #[.agg #[.string s.s, .string s.e, kv]] h (fun r h' => (∃ kv', r = .agg #[.string s.s, .string s.e, kv'] ∧ RKeys (Up A h h') h' kv' s.ks) ∧ Keep [] h h') := by
  obtain ⟨ka, kc, rfl⟩ := hks.form2
  refine cl_intro Try.func60 rfl rfl rfl ?_
  have K : Keep [] h h := Keep.refl _ _
  refine tr_seq ?_
  refine tr_reg ?_
  refine rs_w (w_newbox rfl) rfl ?_
  rintro _ h1 ⟨rfl, B1, K1, Z1⟩
  have S1 := K.1; have K := K.new0 K1
  refine rs_w (w_new zero_impl_Span) rfl ?_
  rintro _ h2 ⟨rfl, B2, K2, Z2⟩
  have B1 := K2.blk (by simp) B1
  have S2 := K.1; have K := K.new0 K2
  refine rs_nil ?_
  refine q_thn ?_
  refine tr_seq ?_
  have S0 : h.size ≤ h2.size := K.1
  have hA2 := hA.mono S0
  refine tr_draw [(true, 8), (false, 1)] _ (by kernel_rfl) (by kernel_rfl) (by kernel_rfl) ?_
  refine rx_any (Keep []) (keep_pre _) ?_
  refine rm_v (keep_pre _) (fun h' hk => v_fieldAddr fa_spec_Span_0 rfl) ?_
  refine rm_v (keep_pre _) (fun h' hk => v_load one_string rfl (Blk.cell (hk.blk (by simp) B1) _ rfl)) ?_
  refine rm_v (keep_pre _) (fun h' hk => v_fieldAddr fa_spec_Span_1 rfl) ?_
  refine rm_v (keep_pre _) (fun h' hk => v_load one_string rfl (Blk.cell (hk.blk (by simp) B1) _ rfl)) ?_
  refine rm_v (keep_pre _) (fun h' hk => v_fieldAddr fa_spec_Span_2 rfl) ?_
  refine rm_v (keep_pre _) (fun h' hk => v_load one_sl_spec_SpanKey rfl (Blk.cell (hk.blk (by simp) B1) _ rfl)) ?_
  refine rm_w (fun v h' => RKeys (Up A h2 h') h' v s.ks) (fun v _ _ k1 k2 hr => upk hA2 k1.1 hr k2) (fun h' hk => OpW.mono (w_call (vs := [_]) ok_laws_toKeys rfl ⟨rfl, trivial⟩ (c_toKeys χ h' A (hA.mono (K.new0 hk).1) _ s.ks (hks.stab ((K.new0 hk).st hA)) hn)) (fun v h'' hv => ⟨hv.2, hv.1.mono (Up.trans2 hk.1 (Nat.le_refl _))⟩)) ?_
  refine rm_o 9 (fun v h' => ∃ kv', v = .agg #[.string s.s, .string s.e, kv'] ∧ RKeys (Up A h2 h') h' kv' s.ks) rfl (by kernel_rfl) (fun v _ _ k1 k2 hr => by obtain ⟨kv', e, hr⟩ := hr; exact ⟨kv', e, upk hA2 k1.1 hr k2⟩) (fun u h' hk hu => by
    obtain ⟨a, c, rfl⟩ := hu.form2
    exact (v_build3 rfl rfl rfl (bld_impl_Span_0_1_2 _ _ _ _ _)).w.mono (fun _ _ e => by obtain ⟨e1, e2⟩ := e; subst e1; subst e2; exact ⟨Keep.refl _ _, _, rfl, hu⟩)) ?_
  refine rm_end ?_; intro ha Ka; simp only [endM, hypF, ofE, argE, List.nil_append]
  intro v10 hv10 v9 hv9
  obtain ⟨kv', rfl, hkv⟩ := hv10
  obtain ⟨ka', kc', rfl⟩ := hkv.form2
  have B2 := Ka.blk (by simp) B2
  have K := K.new0 Ka; have Za := Ka.1
  refine rx_seq ?_
  refine rs_w0 (w_put siz_impl_Span rfl rfl rfl rfl B2 rfl) ?_
  rintro _ h3 ⟨B3, K3⟩
  have K := K.new1 K3 (.inr (by omega))
  refine rs_nil ?_
  refine q_con ?_
  refine rx_nil ?_
  refine q_thn ?_
  refine tr_ret ?_
  refine q_ret (res_cell (vs := [_, _, _]) rfl rfl many_impl_Span (by exact B3.sub 0 3 rfl)) ?_
  have hs : Stab (Up A h2 ha) ha h3 := K3.stab fun b hb => ⟨hA2.up Za b hb, by
    rcases hb with hb | hb
    · have := hA b hb; simp; omega
    · simp; omega⟩
  exact ⟨⟨_, rfl, (hkv.stab hs).mono (Up.trans2 S0 K3.1)⟩, K⟩
theorem c_ofSpan (χ : Chi) (h : Heap) (A : Nat → Prop) (hA : Low A h) (s : SpanD) (kv : Value) (hks : RKeys A h kv s.ks) (hn : s.ks.length ≤ 100000) :
    Cl Try.prog χ 36 #[.agg #[.string s.s, .string s.e, kv]] h (fun r h' => (∃ kv', r = .agg #[.string s.s, .string s.e, kv'] ∧ RKeys (Up A h h') h' kv' s.ks) ∧ Keep [] h h') := by
  obtain ⟨ka, kc, rfl⟩ := hks.form2
  refine cl_intro Try.func36 rfl rfl rfl ?_
  have K : Keep [] h h := Keep.refl _ _
  refine tr_seq ?_
  refine tr_reg ?_
  refine rs_w (w_newbox rfl) rfl ?_
  rintro _ h1 ⟨rfl, B1, K1, Z1⟩
  have S1 := K.1; have K := K.new0 K1
  refine rs_w (w_new zero_spec_Span) rfl ?_
  rintro _ h2 ⟨rfl, B2, K2, Z2⟩
  have B1 := K2.blk (by simp) B1
  have S2 := K.1; have K := K.new0 K2
  refine rs_nil ?_
  refine q_thn ?_
  refine tr_seq ?_
  have S0 : h.size ≤ h2.size := K.1
  have hA2 := hA.mono S0
  refine tr_draw [(true, 8), (false, 1)] _ (by kernel_rfl) (by kernel_rfl) (by kernel_rfl) ?_
  refine rx_any (Keep []) (keep_pre _) ?_
  refine rm_v (keep_pre _) (fun h' hk => v_fieldAddr fa_impl_Span_0 rfl) ?_
  refine rm_v (keep_pre _) (fun h' hk => v_load one_string rfl (Blk.cell (hk.blk (by simp) B1) _ rfl)) ?_
  refine rm_v (keep_pre _) (fun h' hk => v_fieldAddr fa_impl_Span_1 rfl) ?_
  refine rm_v (keep_pre _) (fun h' hk => v_load one_string rfl (Blk.cell (hk.blk (by simp) B1) _ rfl)) ?_
  refine rm_v (keep_pre _) (fun h' hk => v_fieldAddr fa_impl_Span_2 rfl) ?_
  refine rm_v (keep_pre _) (fun h' hk => v_load one_sl_impl_SpanKey rfl (Blk.cell (hk.blk (by simp) B1) _ rfl)) ?_
  refine rm_w (fun v h' => RKeys (Up A h2 h') h' v s.ks) (fun v _ _ k1 k2 hr => upk hA2 k1.1 hr k2) (fun h' hk => OpW.mono (w_call (vs := [_]) ok_laws_ofKeys rfl ⟨rfl, trivial⟩ (c_ofKeys χ h' A (hA.mono (K.new0 hk).1) _ s.ks (hks.stab ((K.new0 hk).st hA)) hn)) (fun v h'' hv => ⟨hv.2, hv.1.mono (Up.trans2 hk.1 (Nat.le_refl _))⟩)) ?_
  refine rm_o 9 (fun v h' => ∃ kv', v = .agg #[.string s.s, .string s.e, kv'] ∧ RKeys (Up A h2 h') h' kv' s.ks) rfl (by kernel_rfl) (fun v _ _ k1 k2 hr => by obtain ⟨kv', e, hr⟩ := hr; exact ⟨kv', e, upk hA2 k1.1 hr k2⟩) (fun u h' hk hu => by
    obtain ⟨a, c, rfl⟩ := hu.form2
    exact (v_build3 rfl rfl rfl (bld_spec_Span_0_1_2 _ _ _ _ _)).w.mono (fun _ _ e => by obtain ⟨e1, e2⟩ := e; subst e1; subst e2; exact ⟨Keep.refl _ _, _, rfl, hu⟩)) ?_
  refine rm_end ?_; intro ha Ka; simp only [endM, hypF, ofE, argE, List.nil_append]
  intro v10 hv10 v9 hv9
  obtain ⟨kv', rfl, hkv⟩ := hv10
  obtain ⟨ka', kc', rfl⟩ := hkv.form2
  have B2 := Ka.blk (by simp) B2
  have K := K.new0 Ka; have Za := Ka.1
  refine rx_seq ?_
  refine rs_w0 (w_put siz_spec_Span rfl rfl rfl rfl B2 rfl) ?_
  rintro _ h3 ⟨B3, K3⟩
  have K := K.new1 K3 (.inr (by omega))
  refine rs_nil ?_
  refine q_con ?_
  refine rx_nil ?_
  refine q_thn ?_
  refine tr_ret ?_
  refine q_ret (res_cell (vs := [_, _, _]) rfl rfl many_spec_Span (by exact B3.sub 0 3 rfl)) ?_
  have hs : Stab (Up A h2 ha) ha h3 := K3.stab fun b hb => ⟨hA2.up Za b hb, by
    rcases hb with hb | hb
    · have := hA b hb; simp; omega
    · simp; omega⟩
  exact ⟨⟨_, rfl, (hkv.stab hs).mono (Up.trans2 S0 K3.1)⟩, K⟩
end Go.Proofs.Ytgebfbnndgjkiaa
