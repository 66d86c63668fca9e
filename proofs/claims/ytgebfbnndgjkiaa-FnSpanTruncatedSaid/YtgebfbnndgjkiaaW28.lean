/- Twenty-eighth part: spans and answers that are alike. Conditions: those that each theorem names. -/
import Derived.Test.YtgebfbnndgjkiaaW27
set_option linter.unusedVariables false
set_option linter.unusedSimpArgs false
namespace Go.Proofs.Ytgebfbnndgjkiaa
open Go.Tess Go.RowKit
set_option maxRecDepth 100000
set_option maxHeartbeats 1000000
def canonS (s : SpanD) : SpanD := ⟨s.s, s.e, canonF s.ks⟩
/-- The same spans, but for the order of keys with equal trailers. -/
def Like (W W2 : List SpanD) : Prop := W.map canonS = W2.map canonS ∧ ∀ s, s ∈ W → descB s.ks = true
theorem Like.refl {W : List SpanD} (h : ∀ s, s ∈ W → descB s.ks = true) : Like W W := ⟨rfl, h⟩
def few (s : SpanD) : Prop := s.ks.length ≤ 100000
def AnsLike (G D : List AnsD) : Prop := G.length = D.length ∧ ∀ (i : Nat) a b, G[i]? = some a → D[i]? = some b → a.done = b.done ∧ a.ok = b.ok ∧ (a.ok = true → Like [a.sp] [b.sp] ∧ few a.sp ∧ few b.sp)
theorem rspans1 {A : Nat → Prop} {h : Heap} {b c : Nat} {s : SpanD} {kv : Value} {T : TypeId} (B : Blk h b [.string s.s, .string s.e, kv] T) (hk : RKeys A h kv s.ks) (hb : A b) : RSpans A h (.slice (some ⟨b, 0, none⟩) 1 c) [s] :=
  ⟨by simp, _, _, rfl, fun i x hi => ⟨b, 0, rfl, hb, by
    cases i with
    | zero => simp at hi; subst hi; exact ⟨kv, B.cells, hk⟩
    | succ i => simp at hi⟩⟩

theorem c_spanCanons (χ : Chi) (h : Heap) (A : Nat → Prop) (hA : Low A h) (v : Value) (W : List SpanD) (hW : RSpans A h v W) (hn : W.length ≤ 100000) (hm : ∀ s, s ∈ W → few s) :
    Cl Try.prog χ 31 #[v] h (fun r h' => RSpans (Up N0 h h') h' r (W.map canonS) ∧ Keep [] h h') := by
  obtain ⟨hlen, a, c, rfl, hx⟩ := hW.form
  refine cl_intro Try.func31 rfl rfl rfl ?_
  have K : Keep [] h h := Keep.refl _ _
  refine tr_seq ?_
  refine tr_reg ?_
  refine rs_v (v_assign rfl) rfl ?_
  refine rs_nil ?_
  refine q_thn ?_
  refine tr_seq ?_
  refine tr_reg ?_
  refine rs_v (v_assign rfl) rfl ?_
  refine rs_nil ?_
  refine q_thn ?_
  refine tr_seq ?_
  refine tr_seq ?_
  refine tr_reg ?_
  refine rs_v (v_move rfl) rfl ?_
  refine rs_v (v_len u_sl_spec_Span rfl) rfl ?_
  refine rs_v (v_move rfl) rfl ?_
  refine rs_nil ?_
  refine q_thn ?_
  refine tr_block ?_
  refine tr_loop (fun m E h' => ∃ k v n, k ≤ W.length ∧ m = W.length - k ∧ E = [(3, v), (6, .slice a W.length c), (7, .int .i64 (W.length : Int)), (8, .int .i64 (k : Int))] ∧ Keep [] h h' ∧ n = ((W.take k).map canonS).length ∧ OutR N0 h h' h.size 55 3 cSpan v n ((W.take k).map canonS)) W.length [(3, _), (6, _), (7, _), (8, _)] ⟨rfl, rfl, rfl, rfl, trivial⟩ ⟨0, _, 0, Nat.zero_le _, rfl, rfl, K, rfl, OutR.nil _ _ _ _ _ _ _⟩ ?_
  rintro m E hL1 ⟨k, v, n, hk, rfl, rfl, K, hn, hout⟩
  have hout0 := hout
  obtain ⟨xs, F, O, hrow, hF⟩ := hout
  have hob := own_ne O; have KL := Keep.refl [] hL1
  refine tr_seq ?_
  refine tr_reg ?_
  refine rs_v (v_lt rfl rfl) rfl ?_
  refine rs_nil ?_
  refine q_thn ?_
  refine tr_seq ?_
  refine tr_ifn rfl (fun hif => ?_) (fun hif => ?_)
  · -- no
    simp only [decide_eq_true_eq, decide_eq_false_iff_not] at hif
    have hkk : k = W.length := by omega
    subst hkk
    refine tr_exit ?_
    refine q_thn_exit ?_
    refine q_lp_exit ?_
    refine q_blk_hit ?_
    refine q_thn ?_
    refine tr_seq ?_
    refine tr_reg ?_
    refine rs_v (v_move rfl) rfl ?_
    refine rs_v (v_assign rfl) rfl ?_
    refine rs_nil ?_
    refine q_thn ?_
    refine tr_ret ?_
    refine q_ret (res_tmp rfl rfl) ?_
    rw [List.take_length] at hout0 hn
    exact ⟨hout0.fin cSpan_st hn (Nat.le_refl _) cSpan_r, K⟩
  -- yes
  simp only [decide_eq_true_eq, decide_eq_false_iff_not] at hif
  rcases hx with rfl | ⟨b, o, rfl, hAb, hR⟩
  · simp at hif; omega
  obtain ⟨x, hsk⟩ := ex_get (L := W) (k := k) (by omega)
  have hkl : k < W.length := (List.getElem?_eq_some_iff.1 hsk).1
  have KL0 := K.1
  obtain ⟨kv, hcc, hkx⟩ := hR k x hsk
  obtain ⟨ka, kc, rfl⟩ := hkx.form2
  have hcells := K.cells (by simp) hcc
  have hnk : n = k := by rw [hn, List.length_map, List.length_take]; omega
  refine tr_skip ?_
  refine q_thn ?_
  refine tr_seq ?_
  refine tr_block ?_
  refine tr_seq ?_
  refine tr_reg ?_
  refine rs_v (v_indexAddrN u_sl_spec_Span siz_spec_Span rfl rfl (by omega)) rfl ?_
  refine rs_v (v_loadAgg (vs := [_, _, _]) many_spec_Span rfl (by exact hcells)) rfl ?_
  refine rs_w (w_new zero_spec_Span) rfl ?_
  rintro _ h2 ⟨rfl, B2, K2, Z2⟩
  have O := O.keep2 K2 (fun x hm => by have := hob x hm; simp; try omega)
  have S2 := K.1; have K := K.new0 K2; have KL := KL.new0 K2
  refine rs_w0 (w_put siz_spec_Span rfl rfl rfl rfl B2 rfl) ?_
  rintro _ h3 ⟨B3, K3⟩
  have O := O.keep2 K3 (fun x hm => by have := hob x hm; simp; try omega)
  have B2 := B3; have K := K.new1 K3 (by first | (right; omega) | (left; simp; done)); have Z3 := K3.1; have KL := KL.new1 K3 (.inr (by omega))
  refine rs_nil ?_
  refine q_thn ?_
  refine tr_seq ?_
  refine tr_reg ?_
  refine rs_v (v_fieldAddr fa_spec_Span_2 rfl) rfl ?_
  refine rs_v (v_load one_sl_spec_SpanKey rfl (by exact B2.cell _ rfl)) rfl ?_
  refine rs_w (w_call (vs := [_]) ok_spec_SpanCanon rfl ⟨rfl, trivial⟩ (c_SpanCanon χ _ A (hA.mono (by omega)) _ x.ks (hkx.stab (K.st hA)) (hm x (List.mem_of_getElem? hsk)))) rfl ?_
  rintro kv4 h4 ⟨hkv4, K4⟩
  obtain ⟨a4, c4, rfl⟩ := hkv4.form2
  have B2 := K4.blk (by simp) B2
  have O := O.keep2 K4 (fun x hm => by have := hob x hm; simp; try omega)
  have K := K.new0 K4; have Z4 := K4.1; have KL := KL.new0 K4
  refine rs_v (v_fieldAddr fa_spec_Span_2 rfl) rfl ?_
  refine rs_w0 (w_put siz_sl_spec_SpanKey rfl rfl rfl rfl B2 rfl) ?_
  rintro _ h5 ⟨B5, K5⟩
  have O := O.keep2 K5 (fun x hm => by have := hob x hm; simp; try omega)
  have B2 := B5; have K := K.new1 K5 (by first | (right; omega) | (left; simp; done)); have Z5 := K5.1; have KL := KL.new1 K5 (.inr (by omega))
  refine rs_nil ?_
  refine q_thn ?_
  refine tr_reg ?_
  refine rs_v (v_move rfl) rfl ?_
  refine rs_v (v_loadAgg (vs := [_, _, _]) many_spec_Span rfl (by exact B2.sub _ 3 rfl)) rfl ?_
  refine rs_w (w_new1 u_sl_spec_Span siz_spec_Span zero_spec_Span rfl rfl rfl rfl rfl) rfl ?_
  rintro _ h6 ⟨rfl, B6, K6, Z6⟩
  have B2 := K6.blk (by simp) B2
  have O := O.keep2 K6 (fun x hm => by have := hob x hm; simp; try omega)
  have S6 := K.1; have K := K.new0 K6; have KL := KL.new0 K6
  refine rs_w (w_app1 u_sl_spec_Span info_spec_Span rfl rfl rfl O rfl rfl B6 rfl (by omega) (by omega) (by omega)) rfl ?_
  rintro v7 h7 ⟨O7, K7, N7, F7⟩
  have K := K.newX K7 (fun x hm => .inr (by have := hob x hm; omega)); have Z7 := K7.1
  have B2 := K7.blk (fun hm => by have := hob _ hm; omega) B2
  have B6 := K7.blk (fun hm => by have := hob _ hm; omega) B6
  refine rs_v (v_assign rfl) rfl ?_
  refine rs_nil ?_
  refine q_blk_n ?_
  refine q_thn ?_
  refine tr_reg ?_
  refine rs_v (v_add rfl rfl (by omega) (by omega)) rfl ?_
  refine rs_v (v_move rfl) rfl ?_
  refine rs_nil ?_
  refine q_lp (W.length - (k + 1)) [(3, _), (6, _), (7, _), (8, _)] (by omega) ⟨rfl, rfl, rfl, rfl, trivial⟩ ⟨k + 1, v7, n + 1, by omega, rfl, rfl, K, ?_, ?_⟩
  · rw [take_snoc' hsk, List.map_append]; rw [List.length_append, ← hn]; rfl
  · rw [take_snoc' hsk, List.map_append]
    exact OutR.snoc cSpan_st (n0low h) (by omega) hob hrow hF KL0 KL O7 K7 F7 rfl (⟨_, rfl, (upk (n0low _) (by omega) (rk_skip hkv4 Z4 K5 (by omega)) K6).mono (n0up (by omega) (Nat.le_refl _))⟩)
theorem c_spanLike (χ : Chi) (h : Heap) (A A2 : Nat → Prop) (hA : Low A h) (hA2 : Low A2 h) (v u : Value) (W W2 : List SpanD) (hW : RSpans A h v W) (hW2 : RSpans A2 h u W2) (hn : W.length ≤ 100000) (hn2 : W2.length ≤ 100000) (hm : ∀ s, s ∈ W → few s) (hm2 : ∀ s, s ∈ W2 → few s) (hlk : Like W W2) :
    Cl Try.prog χ 45 #[v, u] h (fun r h' => r = .bool true ∧ Keep [] h h') := by
  obtain ⟨a2, c2, rfl⟩ := SlR.form2 hW2
  refine cl_intro Try.func45 rfl rfl rfl ?_
  have K : Keep [] h h := Keep.refl _ _
  refine tr_seq ?_
  refine tr_reg ?_
  refine rs_v (v_assign rfl) rfl ?_
  refine rs_nil ?_
  refine q_thn ?_
  refine tr_seq ?_
  refine tr_reg ?_
  refine rs_v (v_move rfl) rfl ?_
  refine rs_w (w_call (vs := [_]) ok_laws_ofSpans rfl ⟨rfl, trivial⟩ (c_ofSpans χ h A hA _ W hW hn hm)) rfl ?_
  rintro v1 h1 ⟨hl1, K1⟩
  obtain ⟨hlen, a, c, rfl, hx⟩ := SlR.form hl1
  have K := K.new0 K1; have Z1 := K1.1
  refine rs_v (v_assign rfl) rfl ?_
  refine rs_nil ?_
  refine q_thn ?_
  refine tr_seq ?_
  refine tr_seq ?_
  refine tr_reg ?_
  refine rs_v (v_move rfl) rfl ?_
  refine rs_v (v_len u_sl_spec_Span rfl) rfl ?_
  refine rs_v (v_move rfl) rfl ?_
  refine rs_nil ?_
  refine q_thn ?_
  refine tr_block ?_
  refine tr_loop (fun m E h' => ∃ k, k ≤ W.length ∧ m = W.length - k ∧ E = [(1, .slice a2 W2.length c2), (5, .slice a W.length c), (10, .slice a W.length c), (11, .int .i64 (W.length : Int)), (12, .int .i64 (k : Int))] ∧ Keep [] h h' ∧ Keep [] h1 h') W.length [(1, _), (5, _), (10, _), (11, _), (12, _)] ⟨rfl, rfl, rfl, rfl, rfl, trivial⟩ ⟨0, Nat.zero_le _, rfl, rfl, K, Keep.refl _ _⟩ ?_
  rintro m E hL2 ⟨k, hk, rfl, rfl, K, KA⟩
  refine tr_seq ?_
  refine tr_reg ?_
  refine rs_v (v_lt rfl rfl) rfl ?_
  refine rs_nil ?_
  refine q_thn ?_
  refine tr_seq ?_
  refine tr_ifn rfl (fun hif => ?_) (fun hif => ?_)
  · -- no
    simp only [decide_eq_true_eq, decide_eq_false_iff_not] at hif
    refine tr_exit ?_
    refine q_thn_exit ?_
    refine q_lp_exit ?_
    refine q_blk_hit ?_
    refine q_thn ?_
    refine tr_seq ?_
    refine tr_reg ?_
    refine rs_v (v_move rfl) rfl ?_
    refine rs_w (w_call (vs := [_]) ok_laws_spanCanons rfl ⟨rfl, trivial⟩ (c_spanCanons χ _ (Up A h h1) ((hA.up Z1).mono KA.1) _ W (RSpans.stab hl1 (KA.st (hA.up Z1))) hn hm)) rfl ?_
    rintro v2 h3 ⟨hl2, K3⟩
    have KA := KA.newX K3 (fun x hx => .inr (by first | (simp at hx; done) | (simp at hx; omega)))
    have K := K.new0 K3; have Z3 := K3.1
    refine rs_v (v_move rfl) rfl ?_
    refine rs_w (w_call (vs := [_]) ok_laws_spanCanons rfl ⟨rfl, trivial⟩ (c_spanCanons χ _ A2 (hA2.mono K.1) _ W2 (hW2.stab (K.st hA2)) hn2 hm2)) rfl ?_
    rintro v3 h4 ⟨hl3, K4⟩
    have hz2 := K3.1
    have hl2 := hl2.stab (K4.st ((n0low _).up hz2))
    obtain ⟨aa2, cc2, rfl⟩ := SlR.form2 hl2
    obtain ⟨aa3, cc3, rfl⟩ := SlR.form2 hl3
    have KA := KA.newX K4 (fun x hx => .inr (by first | (simp at hx; done) | (simp at hx; omega)))
    have K := K.new0 K4; have Z4 := K4.1
    refine rs_w (w_call (vs := [_, _]) ok_laws_sameSpans rfl ⟨rfl, rfl, trivial⟩ (c_sameSpans χ _ _ _ (((n0low _).up hz2).mono Z4) ((n0low _).up Z4) _ _ (W.map canonS) hl2 (by rw [hlk.1]; exact hl3))) rfl ?_
    rintro _ h5 ⟨rfl, K5⟩
    have KA := KA.newX K5 (fun x hx => .inr (by first | (simp at hx; done) | (simp at hx; omega)))
    have K := K.new0 K5; have Z5 := K5.1
    refine rs_v (v_assign rfl) rfl ?_
    refine rs_nil ?_
    refine q_thn ?_
    refine tr_ret ?_
    refine q_ret (res_tmp rfl rfl) ?_
    exact ⟨rfl, K⟩
  -- yes
  simp only [decide_eq_true_eq, decide_eq_false_iff_not] at hif
  rcases hx with rfl | ⟨b, o, rfl, hAb, hR⟩
  · simp at hif; omega
  obtain ⟨x, hsk⟩ := ex_get (L := W) (k := k) (by omega)
  obtain ⟨kv, hcc, hkx⟩ := hR k x hsk
  obtain ⟨ka, kc, rfl⟩ := hkx.form2
  have hcells := KA.cells (by simp) hcc
  have hZA := KA.1
  have hd := hlk.2 x (List.mem_of_getElem? hsk)
  refine tr_skip ?_
  refine q_thn ?_
  refine tr_seq ?_
  refine tr_block ?_
  refine tr_seq ?_
  refine tr_reg ?_
  refine rs_v (v_indexAddrN u_sl_spec_Span siz_spec_Span rfl rfl (by omega)) rfl ?_
  refine rs_v (v_loadAgg (vs := [_, _, _]) many_spec_Span rfl (by exact hcells)) rfl ?_
  refine rs_w (w_new zero_spec_Span) rfl ?_
  rintro _ h6 ⟨rfl, B6, K6, Z6⟩
  have KA := KA.newX K6 (fun x hx => .inr (by first | (simp at hx; done) | (simp at hx; omega)))
  have S6 := K.1; have K := K.new0 K6
  refine rs_w0 (w_put siz_spec_Span rfl rfl rfl rfl B6 rfl) ?_
  rintro _ h7 ⟨B7, K7⟩
  have KA := KA.newX K7 (fun x hx => .inr (by first | (simp at hx; done) | (simp at hx; omega)))
  have B6 := B7; have K := K.new1 K7 (by first | (right; omega) | (left; simp; done)); have Z7 := K7.1
  refine rs_nil ?_
  refine q_thn ?_
  refine tr_seq ?_
  refine tr_reg ?_
  refine rs_v (v_fieldAddr fa_spec_Span_2 rfl) rfl ?_
  refine rs_v (v_load one_sl_spec_SpanKey rfl (by exact B6.cell _ rfl)) rfl ?_
  refine rs_w (w_call (vs := [_]) ok_spec_SpanDescending rfl ⟨rfl, trivial⟩ (c_SpanDescending χ _ (Up A h h1) _ x.ks (hkx.stab (KA.st (hA.up Z1))))) rfl ?_
  rintro _ h8 ⟨rfl, hsame⟩; have hsame := hsame.symm; subst hsame
  refine rs_v (v_not rfl) rfl ?_
  refine rs_nil ?_
  refine q_thn ?_
  refine tr_if_f (lkb (by rw [hd]; rfl)) ?_
  refine tr_skip ?_
  refine q_blk_n ?_
  refine q_thn ?_
  refine tr_reg ?_
  refine rs_v (v_add rfl rfl (by omega) (by omega)) rfl ?_
  refine rs_v (v_move rfl) rfl ?_
  refine rs_nil ?_
  refine q_lp (W.length - (k + 1)) [(1, _), (5, _), (10, _), (11, _), (12, _)] (by omega) ⟨rfl, rfl, rfl, rfl, rfl, trivial⟩ ⟨k + 1, by omega, rfl, rfl, K, KA⟩
theorem c_spanAnswers (χ : Chi) (h : Heap) (A A2 : Nat → Prop) (hA : Low A h) (hA2 : Low A2 h) (v u : Value) (G D : List AnsD) (hG : RAnss A h v G) (hD : RAnss A2 h u D) (hal : AnsLike G D) :
    Cl Try.prog χ 17 #[v, u] h (fun r h' => r = .bool true ∧ Keep [] h h') := by
  obtain ⟨hlen, a, c, rfl, hx⟩ := hG.form
  obtain ⟨_, a2, c2, rfl, hx2⟩ := hD.form
  obtain ⟨hGD, hall⟩ := hal
  rw [← hGD]
  refine cl_intro Try.func17 rfl rfl rfl ?_
  have K : Keep [] h h := Keep.refl _ _
  refine tr_seq ?_
  refine tr_reg ?_
  refine rs_v (v_assign rfl) rfl ?_
  refine rs_nil ?_
  refine q_thn ?_
  refine tr_seq ?_
  refine tr_seq ?_
  refine tr_reg ?_
  refine rs_v (v_move rfl) rfl ?_
  refine rs_v (v_len u_sl_impl_SpanAnswer rfl) rfl ?_
  refine rs_v (v_move rfl) rfl ?_
  refine rs_v (v_len u_sl_spec_SpanAnswer rfl) rfl ?_
  refine rs_v (v_ne rfl rfl) rfl ?_
  refine rs_nil ?_
  refine q_thn ?_
  refine tr_if_f (lkb (decide_eq_false (by simp))) ?_
  refine tr_skip ?_
  refine q_thn ?_
  refine tr_seq ?_
  refine tr_seq ?_
  refine tr_reg ?_
  refine rs_v (v_move rfl) rfl ?_
  refine rs_v (v_len u_sl_impl_SpanAnswer rfl) rfl ?_
  refine rs_v (v_move rfl) rfl ?_
  refine rs_nil ?_
  refine q_thn ?_
  refine tr_block ?_
  refine tr_loop (fun m E h' => ∃ k, k ≤ G.length ∧ m = G.length - k ∧ E = [(1, .slice a2 G.length c2), (13, .slice a G.length c), (14, .int .i64 (G.length : Int)), (15, .int .i64 (k : Int))] ∧ Keep [] h h') G.length [(1, _), (13, _), (14, _), (15, _)] ⟨rfl, rfl, rfl, rfl, trivial⟩ ⟨0, Nat.zero_le _, rfl, rfl, K⟩ ?_
  rintro m E hL1 ⟨k, hk, rfl, rfl, K⟩
  refine tr_seq ?_
  refine tr_reg ?_
  refine rs_v (v_lt rfl rfl) rfl ?_
  refine rs_nil ?_
  refine q_thn ?_
  refine tr_seq ?_
  refine tr_ifn rfl (fun hif => ?_) (fun hif => ?_)
  · -- no
    simp only [decide_eq_true_eq, decide_eq_false_iff_not] at hif
    refine tr_exit ?_
    refine q_thn_exit ?_
    refine q_lp_exit ?_
    refine q_blk_hit ?_
    refine q_thn ?_
    refine tr_seq ?_
    refine tr_reg ?_
    refine rs_v (v_assign rfl) rfl ?_
    refine rs_nil ?_
    refine q_thn ?_
    refine tr_ret ?_
    refine q_ret (res_tmp rfl rfl) ?_
    exact ⟨rfl, K⟩
  -- yes
  simp only [decide_eq_true_eq, decide_eq_false_iff_not] at hif
  rcases hx with rfl | ⟨b, o, rfl, hAb, hR⟩
  · simp at hif; omega
  rcases hx2 with rfl | ⟨b2, o2, rfl, hAb2, hR2⟩
  · have : G.length = 0 := hGD
    omega
  obtain ⟨x, hsk⟩ := ex_get (L := G) (k := k) (by omega)
  obtain ⟨y, hyk⟩ := ex_get (L := D) (k := k) (by omega)
  obtain ⟨kv, hc1, hkx⟩ := hR k x hsk
  obtain ⟨kv2, hc2, hky⟩ := hR2 k y hyk
  obtain ⟨ka, kc, rfl⟩ := hkx.form2
  obtain ⟨ka2, kc2, rfl⟩ := hky.form2
  obtain ⟨hdn, hoo, hlk⟩ := hall k x y hsk hyk
  have d1 : (x.done != y.done) = false := by rw [hdn]; simp
  have d2 : (x.ok != y.ok) = false := by rw [hoo]; simp
  have hc1 := K.cells (by simp) hc1
  refine tr_skip ?_
  refine q_thn ?_
  refine tr_seq ?_
  refine tr_block ?_
  refine tr_seq ?_
  refine tr_reg ?_
  refine rs_v (v_move rfl) rfl ?_
  refine rs_v (v_indexAddrN u_sl_impl_SpanAnswer siz_impl_SpanAnswer rfl rfl (by omega)) rfl ?_
  refine rs_v (v_loadAgg (vs := [_, _, _, _, _]) many_impl_SpanAnswer rfl (by exact hc1)) rfl ?_
  refine rs_w (w_new zero_impl_SpanAnswer) rfl ?_
  rintro _ h2 ⟨rfl, B2, K2, Z2⟩
  have S2 := K.1; have K := K.new0 K2
  refine rs_v (v_assign rfl) rfl ?_
  refine rs_w0 (w_put siz_impl_SpanAnswer rfl rfl rfl rfl B2 rfl) ?_
  rintro _ h3 ⟨B3, K3⟩
  have B2 := B3; have K := K.new1 K3 (by first | (right; omega) | (left; simp; done)); have Z3 := K3.1
  refine rs_nil ?_
  refine q_thn ?_
  refine tr_seq ?_
  refine tr_reg ?_
  refine rs_v (v_move rfl) rfl ?_
  refine rs_v (v_move rfl) rfl ?_
  refine rs_v (v_indexAddrN u_sl_spec_SpanAnswer siz_spec_SpanAnswer rfl rfl (by omega)) rfl ?_
  refine rs_v (v_loadAgg (vs := [_, _, _, _, _]) many_spec_SpanAnswer rfl (by exact K.cells (by simp) hc2)) rfl ?_
  refine rs_w (w_new zero_spec_SpanAnswer) rfl ?_
  rintro _ h4 ⟨rfl, B4, K4, Z4⟩
  have B2 := K4.blk (by simp) B2
  have S4 := K.1; have K := K.new0 K4
  refine rs_w0 (w_put siz_spec_SpanAnswer rfl rfl rfl rfl B4 rfl) ?_
  rintro _ h5 ⟨B5, K5⟩
  have B2 := K5.blk (by simp; omega) B2
  have B4 := B5; have K := K.new1 K5 (by first | (right; omega) | (left; simp; done)); have Z5 := K5.1
  refine rs_nil ?_
  refine q_thn ?_
  refine tr_cut (fun E h' => Keep [] h h' ∧ E = [(1, .slice (some ⟨b2, o2, none⟩) G.length c2), (13, .slice (some ⟨b, o, none⟩) G.length c), (14, .int .i64 (G.length : Int)), (15, .int .i64 (k : Int)), (49, .bool false)]) ?_ ?_
  ·
    rcases Bool.eq_false_or_eq_true x.ok with hok | hok
    · skip
      refine tr_reg ?_
      refine rs_v (v_fieldAddr fa_impl_SpanAnswer_0 rfl) rfl ?_
      refine rs_v (v_load one_bool rfl (by exact B2.cell _ rfl)) rfl ?_
      refine rs_v (v_fieldAddr fa_spec_SpanAnswer_0 rfl) rfl ?_
      refine rs_v (v_load one_bool rfl (by exact B4.cell _ rfl)) rfl ?_
      refine rs_v (v_bne u_bool rfl rfl) rfl ?_
      refine rs_v (v_move rfl) rfl ?_
      refine rs_gv rfl (lkb d1) (v_fieldAddr fa_impl_SpanAnswer_1 rfl) rfl ?_
      refine rs_gv rfl (lkb d1) (v_load one_bool rfl (by exact B2.cell _ rfl)) rfl ?_
      refine rs_gv rfl (lkb d1) (v_fieldAddr fa_spec_SpanAnswer_1 rfl) rfl ?_
      refine rs_gv rfl (lkb d1) (v_load one_bool rfl (by exact B4.cell _ rfl)) rfl ?_
      refine rs_gv rfl (lkb d1) (v_bne u_bool rfl rfl) rfl ?_
      refine rs_v (v_pick_f (lkb d1) rfl) rfl ?_
      refine rs_v (v_move rfl) rfl ?_
      refine rs_gv rfl (lkb d2) (v_fieldAddr fa_impl_SpanAnswer_1 rfl) rfl ?_
      refine rs_gv rfl (lkb d2) (v_load one_bool rfl (by exact B2.cell _ rfl)) rfl ?_
      refine rs_gv rfl (lkb d2) (v_move rfl) rfl ?_
      refine rs_gv rfl (lkb hok) (v_fieldAddr fa_impl_SpanAnswer_2 rfl) rfl ?_
      refine rs_gv rfl (lkb hok) (v_loadAgg (vs := [_, _, _]) many_impl_Span rfl (by exact B2.sub _ 3 rfl)) rfl ?_
      refine rs_gw rfl (lkb hok) (w_new1 u_sl_impl_Span siz_impl_Span zero_impl_Span rfl rfl rfl rfl rfl) rfl ?_
      rintro _ h6 ⟨rfl, B6, K6, Z6⟩
      have B2 := K6.blk (by simp) B2
      have B4 := K6.blk (by simp) B4
      have S6 := K.1; have K := K.new0 K6
      refine rs_gv rfl (lkb hok) (v_fieldAddr fa_spec_SpanAnswer_2 rfl) rfl ?_
      refine rs_gv rfl (lkb hok) (v_loadAgg (vs := [_, _, _]) many_spec_Span rfl (by exact B4.sub _ 3 rfl)) rfl ?_
      refine rs_gw rfl (lkb hok) (w_new1 u_sl_spec_Span siz_spec_Span zero_spec_Span rfl rfl rfl rfl rfl) rfl ?_
      rintro _ h7 ⟨rfl, B7, K7, Z7⟩
      have B2 := K7.blk (by simp) B2
      have B4 := K7.blk (by simp) B4
      have B6 := K7.blk (by simp) B6
      have S7 := K.1; have K := K.new0 K7
      refine rs_gw rfl (lkb hok) (w_call (vs := [_, _]) ok_laws_spanLike rfl ⟨rfl, rfl, trivial⟩ (c_spanLike χ _ (Up A h h7) (Up A2 h h7) (hA.up (by omega)) (hA2.up (by omega)) _ _ [x.sp] [y.sp] (rspans1 B6 (hkx.stab (K.st hA) |>.mono Up.old) (.inr ⟨by omega, by omega⟩)) (rspans1 B7 (hky.stab (K.st hA2) |>.mono Up.old) (.inr ⟨by omega, by omega⟩)) (by simp) (by simp)
            (by simpa using (hlk hok).2.1) (by simpa using (hlk hok).2.2) (hlk hok).1)) rfl ?_
      rintro _ h8 ⟨rfl, K8⟩
      have B2 := K8.blk (by simp) B2
      have B4 := K8.blk (by simp) B4
      have B6 := K8.blk (by simp) B6
      have B7 := K8.blk (by simp) B7
      have K := K.new0 K8; have Z8 := K8.1
      refine rs_gv rfl (lkb hok) (v_not rfl) rfl ?_
      refine rs_gv rfl (lkb d2) (v_pick_t (lkb hok) rfl) rfl ?_
      refine rs_v (v_pick_f (lkb d2) rfl) rfl ?_
      refine rs_nil ?_
      exact q_cut [(1, _), (13, _), (14, _), (15, _), (49, _)] ⟨rfl, rfl, rfl, rfl, rfl, trivial⟩ ⟨K, by first | rfl | (rw [d2]; rfl)⟩
    · skip
      refine tr_reg ?_
      refine rs_v (v_fieldAddr fa_impl_SpanAnswer_0 rfl) rfl ?_
      refine rs_v (v_load one_bool rfl (by exact B2.cell _ rfl)) rfl ?_
      refine rs_v (v_fieldAddr fa_spec_SpanAnswer_0 rfl) rfl ?_
      refine rs_v (v_load one_bool rfl (by exact B4.cell _ rfl)) rfl ?_
      refine rs_v (v_bne u_bool rfl rfl) rfl ?_
      refine rs_v (v_move rfl) rfl ?_
      refine rs_gv rfl (lkb d1) (v_fieldAddr fa_impl_SpanAnswer_1 rfl) rfl ?_
      refine rs_gv rfl (lkb d1) (v_load one_bool rfl (by exact B2.cell _ rfl)) rfl ?_
      refine rs_gv rfl (lkb d1) (v_fieldAddr fa_spec_SpanAnswer_1 rfl) rfl ?_
      refine rs_gv rfl (lkb d1) (v_load one_bool rfl (by exact B4.cell _ rfl)) rfl ?_
      refine rs_gv rfl (lkb d1) (v_bne u_bool rfl rfl) rfl ?_
      refine rs_v (v_pick_f (lkb d1) rfl) rfl ?_
      refine rs_v (v_move rfl) rfl ?_
      refine rs_gv rfl (lkb d2) (v_fieldAddr fa_impl_SpanAnswer_1 rfl) rfl ?_
      refine rs_gv rfl (lkb d2) (v_load one_bool rfl (by exact B2.cell _ rfl)) rfl ?_
      refine rs_gv rfl (lkb d2) (v_move rfl) rfl ?_
      refine rs_gs rfl (lkb hok) rfl rfl ?_
      refine rs_gs rfl (lkb hok) rfl rfl ?_
      refine rs_gs rfl (lkb hok) rfl rfl ?_
      refine rs_gs rfl (lkb hok) rfl rfl ?_
      refine rs_gs rfl (lkb hok) rfl rfl ?_
      refine rs_gs rfl (lkb hok) rfl rfl ?_
      refine rs_gs rfl (lkb hok) rfl rfl ?_
      refine rs_gs rfl (lkb hok) rfl rfl ?_
      refine rs_gv rfl (lkb d2) (v_pick_f (lkb hok) rfl) rfl ?_
      refine rs_v (v_pick_f (lkb d2) rfl) rfl ?_
      refine rs_nil ?_
      exact q_cut [(1, _), (13, _), (14, _), (15, _), (49, _)] ⟨rfl, rfl, rfl, rfl, rfl, trivial⟩ ⟨K, by first | rfl | (rw [d2]; rfl)⟩
  rintro E h99 ⟨K, rfl⟩
  refine tr_if_f rfl ?_
  refine tr_skip ?_
  refine q_blk_n ?_
  refine q_thn ?_
  refine tr_reg ?_
  refine rs_v (v_add rfl rfl (by omega) (by omega)) rfl ?_
  refine rs_v (v_move rfl) rfl ?_
  refine rs_nil ?_
  refine q_lp (G.length - (k + 1)) [(1, _), (13, _), (14, _), (15, _)] (by omega) ⟨rfl, rfl, rfl, rfl, trivial⟩ ⟨k + 1, by omega, rfl, rfl, K⟩
end Go.Proofs.Ytgebfbnndgjkiaa
