/- Walks, tenth part: the package's spans, whole. Conditions: those that each theorem names. -/
import Derived.Test.YtgebfbnndgjkiaaW9
set_option linter.unusedVariables false
set_option linter.unusedSimpArgs false
namespace Go.Proofs.Ytgebfbnndgjkiaa
open Go.Tess Go.RowKit
set_option maxRecDepth 100000
theorem stab_skip {A : Nat → Prop} {h h2 ha h3 : Heap} {b0 : Nat} (hA : Low A h) (S0 : h.size ≤ h2.size) (Za : h2.size ≤ ha.size) (K3 : Keep [b0] ha h3) (h1 : h.size ≤ b0) (h2' : b0 < h2.size) : Stab (Up A h2 ha) ha h3 :=
  K3.stab fun b hb => ⟨(hA.mono S0).up Za b hb, by
    rcases hb with hb | hb
    · have := hA b hb; simp; omega
    · simp; omega⟩

theorem c_span (χ : Chi) (h : Heap) (A : Nat → Prop) (hA : Low A h) (s : SpanD) (kv : Value) (hks : RKeys A h kv s.ks) (hm : SpanD.small s) :
    Cl Try.prog χ 88 #[.agg #[.string s.s, .string s.e, kv]] h
      (fun r h' => (∃ sv ev kv', r = .agg #[sv, ev, kv', .int .i8 0] ∧ RBytes (Up N0 h h') h' sv s.s ∧ RBytes (Up N0 h h') h' ev s.e ∧ PKeys (Up N0 h h') h' kv' s.ks) ∧ Keep [] h h') := by
  obtain ⟨ka, kc, rfl⟩ := hks.form2
  refine cl_intro Try.func88 rfl rfl rfl ?_
  have K : Keep [] h h := Keep.refl _ _
  refine tr_seq ?_
  refine tr_reg ?_
  refine rs_w (w_newbox rfl) rfl ?_
  rintro _ h1 ⟨rfl, B1, K1, Z1⟩
  have S1 := K.1; have K := K.new0 K1
  refine rs_w (w_new zero_keyspan_Span) rfl ?_
  rintro _ h2 ⟨rfl, B2, K2, Z2⟩
  have B1 := K2.blk (by simp) B1
  have S2 := K.1; have K := K.new0 K2
  refine rs_nil ?_
  refine q_thn ?_
  refine tr_seq ?_
  have S0 : h.size ≤ h2.size := K.1
  have hA2 := hA.mono S0
  refine tr_draw [(true, 10), (false, 1)] _ (by kernel_rfl) (by kernel_rfl) (by kernel_rfl) ?_
  refine rx_any (Keep []) (keep_pre _) ?_
  refine rm_v (keep_pre _) (fun h' hk => v_fieldAddr fa_impl_Span_0 rfl) ?_
  refine rm_v (keep_pre _) (fun h' hk => v_load one_string rfl (Blk.cell (hk.blk (by simp) B1) _ rfl)) ?_
  refine rm_w (fun v h' => RBytes (Up N0 h2 h') h' v s.s) (fun v _ _ k1 k2 hr => upb (n0low _) k1.1 hr k2) (fun h' hk => OpW.mono (w_bytes u_string u_sl_uint8 u_uint8 rfl hm.1) (fun v h'' hv => by
    obtain ⟨c, e, K', r⟩ := hv
    exact ⟨K', r.mono (fun b hb => .inr ⟨by have := hk.1; omega, hb.2⟩)⟩)) ?_
  refine rm_v (keep_pre _) (fun h' hk => v_fieldAddr fa_impl_Span_1 rfl) ?_
  refine rm_v (keep_pre _) (fun h' hk => v_load one_string rfl (Blk.cell (hk.blk (by simp) B1) _ rfl)) ?_
  refine rm_w (fun v h' => RBytes (Up N0 h2 h') h' v s.e) (fun v _ _ k1 k2 hr => upb (n0low _) k1.1 hr k2) (fun h' hk => OpW.mono (w_bytes u_string u_sl_uint8 u_uint8 rfl hm.2.1) (fun v h'' hv => by
    obtain ⟨c, e, K', r⟩ := hv
    exact ⟨K', r.mono (fun b hb => .inr ⟨by have := hk.1; omega, hb.2⟩)⟩)) ?_
  refine rm_v (keep_pre _) (fun h' hk => v_fieldAddr fa_impl_Span_2 rfl) ?_
  refine rm_v (keep_pre _) (fun h' hk => v_load one_sl_impl_SpanKey rfl (Blk.cell (hk.blk (by simp) B1) _ rfl)) ?_
  refine rm_w (fun v h' => PKeys (Up N0 h2 h') h' v s.ks) (fun v _ _ k1 k2 hr => upp (n0low _) k1.1 hr k2) (fun h' hk => OpW.mono (w_call (vs := [_]) ok_impl_spanKeys rfl ⟨rfl, trivial⟩ (c_spanKeys χ h' A (hA.mono (K.new0 hk).1) _ s.ks (hks.stab ((K.new0 hk).st hA)) hm.2.2.1 hm.2.2.2)) (fun v h'' hv => ⟨hv.2, hv.1.mono (Up.trans2 hk.1 (Nat.le_refl _))⟩)) ?_
  refine rm_o3 5 8 11 (fun v h' => ∃ sv ev kv', v = .agg #[sv, ev, kv', .int .i8 0] ∧ RBytes (Up N0 h2 h') h' sv s.s ∧ RBytes (Up N0 h2 h') h' ev s.e ∧ PKeys (Up N0 h2 h') h' kv' s.ks) rfl rfl rfl rfl rfl rfl (by kernel_rfl) (by kernel_rfl) (by kernel_rfl)
    (fun v _ _ k1 k2 hr => by obtain ⟨a, b, c, e, r1, r2, r3⟩ := hr; exact ⟨a, b, c, e, upb (n0low _) k1.1 r1 k2, upb (n0low _) k1.1 r2 k2, upp (n0low _) k1.1 r3 k2⟩)
    (fun u u2 u3 h' hk hu hu2 hu3 => by
      obtain ⟨a1, n1, c1, rfl⟩ := hu.form2
      obtain ⟨a2, n2, c2, rfl⟩ := hu2.form2
      obtain ⟨a3, n3, c3, rfl⟩ := hu3.form2
      exact (v_build3 rfl rfl rfl (bld_keyspan_Span_0_1_2 _ _ _ _ _ _ _ _ _)).w.mono (fun _ _ e => by obtain ⟨e1, e2⟩ := e; subst e1; subst e2; exact ⟨Keep.refl _ _, _, _, _, rfl, hu, hu2, hu3⟩)) ?_
  refine rm_end ?_; intro ha Ka; simp only [endM, hypF, ofE, argE, List.nil_append]
  intro v12 hv12 v11 _ v8 _ v5 _
  obtain ⟨sv, ev, kv', rfl, r1, r2, r3⟩ := hv12
  obtain ⟨a1, n1, c1, rfl⟩ := r1.form2
  obtain ⟨a2, n2, c2, rfl⟩ := r2.form2
  obtain ⟨a3, n3, c3, rfl⟩ := r3.form2
  have B2 := Ka.blk (by simp) B2
  have K := K.new0 Ka; have Za := Ka.1
  refine rx_seq ?_
  refine rs_w0 (w_put siz_keyspan_Span rfl rfl rfl rfl B2 rfl) ?_
  rintro _ h3 ⟨B3, K3⟩
  have K := K.new1 K3 (.inr (by omega))
  refine rs_nil ?_
  refine q_con ?_
  refine rx_nil ?_
  refine q_thn ?_
  refine tr_ret ?_
  refine q_ret (res_cell (vs := [_, _, _, _]) rfl rfl many_keyspan_Span (by exact B3.sub 0 4 rfl)) ?_
  have hs := stab_skip (n0low h) S0 Za K3 (by omega) (by omega)
  exact ⟨⟨_, _, _, rfl, (r1.stab hs).mono (Up.trans2 S0 K3.1), (r2.stab hs).mono (Up.trans2 S0 K3.1), (r3.stab hs).mono (Up.trans2 S0 K3.1)⟩, K⟩
theorem c_spans (χ : Chi) (h : Heap) (A : Nat → Prop) (hA : Low A h) (v : Value) (W : List SpanD) (hW : RSpans A h v W) (hn : W.length ≤ 100000) (hm : ∀ s, s ∈ W → SpanD.small s) :
    Cl Try.prog χ 59 #[v] h (fun r h' => PSpans (Up N0 h h') h' r W ∧ Keep [] h h') := by
  obtain ⟨hlen, a, c, rfl, hx⟩ := hW.form
  refine cl_intro Try.func59 rfl rfl rfl ?_
  have K : Keep [] h h := Keep.refl _ _
  refine tr_seq ?_
  refine tr_reg ?_
  refine rs_v (v_assign rfl) rfl ?_
  refine rs_nil ?_
  refine q_thn ?_
  refine tr_seq ?_
  refine tr_reg ?_
  refine rs_v (v_assign rfl) rfl ?_
  refine rs_nil ?_
  refine q_thn ?_
  refine tr_seq ?_
  refine tr_seq ?_
  refine tr_reg ?_
  refine rs_v (v_move rfl) rfl ?_
  refine rs_v (v_len u_sl_impl_Span rfl) rfl ?_
  refine rs_v (v_move rfl) rfl ?_
  refine rs_nil ?_
  refine q_thn ?_
  refine tr_block ?_
  refine tr_loop (fun m E h' => ∃ k v n, k ≤ W.length ∧ m = W.length - k ∧ E = [(3, v), (6, .slice a W.length c), (7, .int .i64 (W.length : Int)), (8, .int .i64 (k : Int))] ∧ Keep [] h h' ∧ n = (W.take k).length ∧ OutR N0 h h' h.size 128 4 cPSpan v n (W.take k)) W.length [(3, _), (6, _), (7, _), (8, _)] ⟨rfl, rfl, rfl, rfl, trivial⟩ ⟨0, _, 0, Nat.zero_le _, rfl, rfl, K, rfl, OutR.nil _ _ _ _ _ _ _⟩ ?_
  rintro m E hL1 ⟨k, v, n, hk, rfl, rfl, K, hn, hout⟩
  have hout0 := hout
  obtain ⟨xs, F, O, hrow, hF⟩ := hout
  have hob := own_ne O; have KL := Keep.refl [] hL1
  refine tr_seq ?_
  refine tr_reg ?_
  refine rs_v (v_lt rfl rfl) rfl ?_
  refine rs_nil ?_
  refine q_thn ?_
  refine tr_seq ?_
  refine tr_ifn rfl (fun hif => ?_) (fun hif => ?_)
  · -- no
    simp only [decide_eq_true_eq, decide_eq_false_iff_not] at hif
    have hkk : k = W.length := by omega
    subst hkk
    refine tr_exit ?_
    refine q_thn_exit ?_
    refine q_lp_exit ?_
    refine q_blk_hit ?_
    refine q_thn ?_
    refine tr_seq ?_
    refine tr_reg ?_
    refine rs_v (v_move rfl) rfl ?_
    refine rs_v (v_assign rfl) rfl ?_
    refine rs_nil ?_
    refine q_thn ?_
    refine tr_ret ?_
    refine q_ret (res_tmp rfl rfl) ?_
    rw [List.take_length] at hout0 hn
    exact ⟨hout0.fin cPSpan_st hn (Nat.le_refl _) cPSpan_r, K⟩
  -- yes
  simp only [decide_eq_true_eq, decide_eq_false_iff_not] at hif
  rcases hx with rfl | ⟨b, o, rfl, hAb, hR⟩
  · simp at hif; omega
  obtain ⟨x, hsk⟩ := ex_get (L := W) (k := k) (by omega)
  have hkl : k < W.length := (List.getElem?_eq_some_iff.1 hsk).1
  have KL0 := K.1
  obtain ⟨kv, hcc, hkx⟩ := hR k x hsk
  obtain ⟨ka, kc, rfl⟩ := hkx.form2
  have hcells := K.cells (by simp) hcc
  have hnk : n = k := by rw [hn, List.length_take]; omega
  refine tr_skip ?_
  refine q_thn ?_
  refine tr_seq ?_
  refine tr_block ?_
  refine tr_seq ?_
  refine tr_reg ?_
  refine rs_v (v_indexAddrN u_sl_impl_Span siz_impl_Span rfl rfl (by omega)) rfl ?_
  refine rs_v (v_loadAgg (vs := [_, _, _]) many_impl_Span rfl (by exact hcells)) rfl ?_
  refine rs_w (w_new zero_impl_Span) rfl ?_
  rintro _ h2 ⟨rfl, B2, K2, Z2⟩
  have O := O.keep2 K2 (fun x hm => by have := hob x hm; simp; try omega)
  have S2 := K.1; have K := K.new0 K2; have KL := KL.new0 K2
  refine rs_w0 (w_put siz_impl_Span rfl rfl rfl rfl B2 rfl) ?_
  rintro _ h3 ⟨B3, K3⟩
  have O := O.keep2 K3 (fun x hm => by have := hob x hm; simp; try omega)
  have B2 := B3; have K := K.new1 K3 (by first | (right; omega) | (left; simp; done)); have Z3 := K3.1; have KL := KL.new1 K3 (.inr (by omega))
  refine rs_nil ?_
  refine q_thn ?_
  refine tr_reg ?_
  refine rs_v (v_move rfl) rfl ?_
  refine rs_v (v_loadAgg (vs := [_, _, _]) many_impl_Span rfl (by exact B2.sub _ 3 rfl)) rfl ?_
  refine rs_w (w_call (vs := [_]) ok_impl_Span_span rfl ⟨rfl, trivial⟩ (c_span χ _ A (hA.mono (by omega)) x _ (hkx.stab (K.st hA)) (hm x (List.mem_of_getElem? hsk)))) rfl ?_
  rintro _ h4 ⟨⟨sv, ev, kv4, rfl, r1, r2, r3⟩, K4⟩
  obtain ⟨a1, n1, c1, rfl⟩ := r1.form2
  obtain ⟨a2, n2, c2, rfl⟩ := r2.form2
  obtain ⟨a3, n3, c3, rfl⟩ := r3.form2
  have B2 := K4.blk (by simp) B2
  have O := O.keep2 K4 (fun x hm => by have := hob x hm; simp; try omega)
  have K := K.new0 K4; have Z4 := K4.1; have KL := KL.new0 K4
  refine rs_w (w_new1 u_sl_keyspan_Span siz_keyspan_Span zero_keyspan_Span rfl rfl rfl rfl rfl) rfl ?_
  rintro _ h5 ⟨rfl, B5, K5, Z5⟩
  have B2 := K5.blk (by simp) B2
  have O := O.keep2 K5 (fun x hm => by have := hob x hm; simp; try omega)
  have S5 := K.1; have K := K.new0 K5; have KL := KL.new0 K5
  refine rs_w (w_app1 u_sl_keyspan_Span info_keyspan_Span rfl rfl rfl O rfl rfl B5 rfl (by omega) (by omega) (by omega)) rfl ?_
  rintro v6 h6 ⟨O6, K6, N6, F6⟩
  have K := K.newX K6 (fun x hm => .inr (by have := hob x hm; omega)); have Z6 := K6.1
  have B2 := K6.blk (fun hm => by have := hob _ hm; omega) B2
  have B5 := K6.blk (fun hm => by have := hob _ hm; omega) B5
  refine rs_v (v_assign rfl) rfl ?_
  refine rs_nil ?_
  refine q_blk_n ?_
  refine q_thn ?_
  refine tr_reg ?_
  refine rs_v (v_add rfl rfl (by omega) (by omega)) rfl ?_
  refine rs_v (v_move rfl) rfl ?_
  refine rs_nil ?_
  refine q_lp (W.length - (k + 1)) [(3, _), (6, _), (7, _), (8, _)] (by omega) ⟨rfl, rfl, rfl, rfl, trivial⟩ ⟨k + 1, v6, n + 1, by omega, rfl, rfl, K, ?_, ?_⟩
  · rw [take_snoc' hsk]; rw [List.length_append, ← hn]; rfl
  · rw [take_snoc' hsk]
    exact OutR.snoc cPSpan_st (n0low h) (by omega) hob hrow hF KL0 KL O6 K6 F6 rfl (⟨_, _, _, _, rfl, (r1.stab (K5.st ((n0low _).up K4.1))).mono (Up.trans2 (by omega) K5.1), (r2.stab (K5.st ((n0low _).up K4.1))).mono (Up.trans2 (by omega) K5.1), (r3.stab (K5.st ((n0low _).up K4.1))).mono (Up.trans2 (by omega) K5.1)⟩)
theorem c_plainSpan (χ : Chi) (h : Heap) (A : Nat → Prop) (hA : Low A h) (s : SpanD) (sv ev kv : Value) (kk : Int) (r1 : RBytes A h sv s.s) (r2 : RBytes A h ev s.e) (r3 : PKeys A h kv s.ks) (hn : s.ks.length ≤ 100000) :
    Cl Try.prog χ 86 #[.agg #[sv, ev, kv, .int .i8 kk]] h (fun r h' => (∃ kv', r = .agg #[.string s.s, .string s.e, kv'] ∧ RKeys (Up N0 h h') h' kv' s.ks) ∧ Keep [] h h') := by
  obtain ⟨a1, n1, c1, rfl⟩ := r1.form2
  obtain ⟨a2, n2, c2, rfl⟩ := r2.form2
  obtain ⟨a3, n3, c3, rfl⟩ := r3.form2
  refine cl_intro Try.func86 rfl rfl rfl ?_
  have K : Keep [] h h := Keep.refl _ _
  refine tr_seq ?_
  refine tr_reg ?_
  refine rs_w (w_newbox rfl) rfl ?_
  rintro _ h1 ⟨rfl, B1, K1, Z1⟩
  have S1 := K.1; have K := K.new0 K1
  refine rs_w (w_new zero_impl_Span) rfl ?_
  rintro _ h2 ⟨rfl, B2, K2, Z2⟩
  have B1 := K2.blk (by simp) B1
  have S2 := K.1; have K := K.new0 K2
  refine rs_nil ?_
  refine q_thn ?_
  refine tr_seq ?_
  have S0 : h.size ≤ h2.size := K.1
  have hA2 := hA.mono S0
  refine tr_draw [(true, 10), (false, 1)] _ (by kernel_rfl) (by kernel_rfl) (by kernel_rfl) ?_
  refine rx_any (Keep []) (keep_pre _) ?_
  refine rm_v (keep_pre _) (fun h' hk => v_fieldAddr fa_keyspan_Span_0 rfl) ?_
  refine rm_v (keep_pre _) (fun h' hk => v_load one_sl_uint8 rfl (Blk.cell (hk.blk (by simp) B1) _ rfl)) ?_
  refine rm_v (keep_pre _) (fun h' hk => v_toStr u_sl_uint8 u_uint8 u_string rfl (RBytes.by (r1.stab ((K.new0 hk).st hA)))) ?_
  refine rm_v (keep_pre _) (fun h' hk => v_fieldAddr fa_keyspan_Span_1 rfl) ?_
  refine rm_v (keep_pre _) (fun h' hk => v_load one_sl_uint8 rfl (Blk.cell (hk.blk (by simp) B1) _ rfl)) ?_
  refine rm_v (keep_pre _) (fun h' hk => v_toStr u_sl_uint8 u_uint8 u_string rfl (RBytes.by (r2.stab ((K.new0 hk).st hA)))) ?_
  refine rm_v (keep_pre _) (fun h' hk => v_fieldAddr fa_keyspan_Span_2 rfl) ?_
  refine rm_v (keep_pre _) (fun h' hk => v_load one_sl_keyspan_Key rfl (Blk.cell (hk.blk (by simp) B1) _ rfl)) ?_
  refine rm_w (fun v h' => RKeys (Up N0 h2 h') h' v s.ks) (fun v _ _ k1 k2 hr => upk (n0low _) k1.1 hr k2) (fun h' hk => OpW.mono (w_call (vs := [_]) ok_impl_plainKeys rfl ⟨rfl, trivial⟩ (c_plainKeys χ h' A (hA.mono (K.new0 hk).1) _ s.ks (r3.stab ((K.new0 hk).st hA)) hn)) (fun v h'' hv => ⟨hv.2, hv.1.mono (Up.trans2 hk.1 (Nat.le_refl _))⟩)) ?_
  refine rm_o 11 (fun v h' => ∃ kv', v = .agg #[.string s.s, .string s.e, kv'] ∧ RKeys (Up N0 h2 h') h' kv' s.ks) rfl (by kernel_rfl) (fun v _ _ k1 k2 hr => by obtain ⟨kv', e, hr⟩ := hr; exact ⟨kv', e, upk (n0low _) k1.1 hr k2⟩) (fun u h' hk hu => by
    obtain ⟨a, c, rfl⟩ := hu.form2
    exact (v_build3 rfl rfl rfl (bld_impl_Span_0_1_2 _ _ _ _ _)).w.mono (fun _ _ e => by obtain ⟨e1, e2⟩ := e; subst e1; subst e2; exact ⟨Keep.refl _ _, _, rfl, hu⟩)) ?_
  refine rm_end ?_; intro ha Ka; simp only [endM, hypF, ofE, argE, List.nil_append]
  intro v12 hv12 v11 _
  obtain ⟨kv', rfl, hkv⟩ := hv12
  obtain ⟨ka', kc', rfl⟩ := hkv.form2
  have B2 := Ka.blk (by simp) B2
  have K := K.new0 Ka; have Za := Ka.1
  refine rx_seq ?_
  refine rs_w0 (w_put siz_impl_Span rfl rfl rfl rfl B2 rfl) ?_
  rintro _ h3 ⟨B3, K3⟩
  have K := K.new1 K3 (.inr (by omega))
  refine rs_nil ?_
  refine q_con ?_
  refine rx_nil ?_
  refine q_thn ?_
  refine tr_ret ?_
  refine q_ret (res_cell (vs := [_, _, _]) rfl rfl many_impl_Span (by exact B3.sub 0 3 rfl)) ?_
  have hs := stab_skip (n0low h) S0 Za K3 (by omega) (by omega)
  exact ⟨⟨_, rfl, (hkv.stab hs).mono (Up.trans2 S0 K3.1)⟩, K⟩
end Go.Proofs.Ytgebfbnndgjkiaa
