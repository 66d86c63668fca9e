/- Texts W28 to W62, as far as the statement reaches them, laid together by a program of ours. Conditions: those that each theorem names. -/
import Derived.Test.YtgebfbnndgjkiaaK2
import Derived.Test.YtgebfbnndgjkiaaRows
import Derived.ProofKit
import Derived.Deep.Slices
set_option linter.unusedVariables false
set_option linter.unusedSimpArgs false
set_option linter.unusedSectionVars false
namespace Go.Proofs.Ytgebfbnndgjkiaa
open Go.Tess Go.RowKit
set_option maxRecDepth 100000
set_option maxHeartbeats 1000000
def canonS (s : SpanD) : SpanD := ⟨s.s, s.e, canonF s.ks⟩
/-- The same spans, but for the order of keys with equal trailers. -/
def Like (W W2 : List SpanD) : Prop := W.map canonS = W2.map canonS ∧ ∀ s, s ∈ W → descB s.ks = true
theorem Like.refl {W : List SpanD} (h : ∀ s, s ∈ W → descB s.ks = true) : Like W W := ⟨rfl, h⟩
def few (s : SpanD) : Prop := s.ks.length ≤ 100000
def AnsLike (G D : List AnsD) : Prop := G.length = D.length ∧ ∀ (i : Nat) a b, G[i]? = some a → D[i]? = some b → a.done = b.done ∧ a.ok = b.ok ∧ (a.ok = true → Like [a.sp] [b.sp] ∧ few a.sp ∧ few b.sp)
theorem rspans1 {A : Nat → Prop} {h : Heap} {b c : Nat} {s : SpanD} {kv : Value} {T : TypeId} (B : Blk h b [.string s.s, .string s.e, kv] T) (hk : RKeys A h kv s.ks) (hb : A b) : RSpans A h (.slice (some ⟨b, 0, none⟩) 1 c) [s] :=
  ⟨by simp, _, _, rfl, fun i x hi => ⟨b, 0, rfl, hb, by
    cases i with
    | zero => simp at hi; subst hi; exact ⟨kv, B.cells, hk⟩
    | succ i => simp at hi⟩⟩

theorem c_spanCanons (χ : Chi) (h : Heap) (A : Nat → Prop) (hA : Low A h) (v : Value) (W : List SpanD) (hW : RSpans A h v W) (hn : W.length ≤ 100000) (hm : ∀ s, s ∈ W → few s) :
    Cl Try.prog χ 31 #[v] h (fun r h' => RSpans (Up N0 h h') h' r (W.map canonS) ∧ Keep [] h h') := by
  obtain ⟨hlen, a, c, rfl, hx⟩ := hW.form
  refine cl_intro Try.func31 rfl rfl rfl ?_
  have K : Keep [] h h := Keep.refl _ _
  refine tr_seq ?_
  refine tr_reg ?_
  refine rs_v (v_assign rfl) rfl ?_
  refine rs_nil ?_
  refine q_thn ?_
  refine tr_seq ?_
  refine tr_reg ?_
  refine rs_v (v_assign rfl) rfl ?_
  refine rs_nil ?_
  refine q_thn ?_
  refine tr_seq ?_
  refine tr_seq ?_
  refine tr_reg ?_
  refine rs_v (v_move rfl) rfl ?_
  refine rs_v (v_len u_sl_spec_Span rfl) rfl ?_
  refine rs_v (v_move rfl) rfl ?_
  refine rs_nil ?_
  refine q_thn ?_
  refine tr_block ?_
  refine tr_loop (fun m E h' => ∃ k v n, k ≤ W.length ∧ m = W.length - k ∧ E = [(3, v), (6, .slice a W.length c), (7, .int .i64 (W.length : Int)), (8, .int .i64 (k : Int))] ∧ Keep [] h h' ∧ n = ((W.take k).map canonS).length ∧ OutR N0 h h' h.size 55 3 cSpan v n ((W.take k).map canonS)) W.length [(3, _), (6, _), (7, _), (8, _)] ⟨rfl, rfl, rfl, rfl, trivial⟩ ⟨0, _, 0, Nat.zero_le _, rfl, rfl, K, rfl, OutR.nil _ _ _ _ _ _ _⟩ ?_
  rintro m E hL1 ⟨k, v, n, hk, rfl, rfl, K, hn, hout⟩
  have hout0 := hout
  obtain ⟨xs, F, O, hrow, hF⟩ := hout
  have hob := own_ne O; have KL := Keep.refl [] hL1
  refine tr_seq ?_
  refine tr_reg ?_
  refine rs_v (v_lt rfl rfl) rfl ?_
  refine rs_nil ?_
  refine q_thn ?_
  refine tr_seq ?_
  refine tr_ifn rfl (fun hif => ?_) (fun hif => ?_)
  · -- no
    simp only [decide_eq_true_eq, decide_eq_false_iff_not] at hif
    have hkk : k = W.length := by omega
    subst hkk
    refine tr_exit ?_
    refine q_thn_exit ?_
    refine q_lp_exit ?_
    refine q_blk_hit ?_
    refine q_thn ?_
    refine tr_seq ?_
    refine tr_reg ?_
    refine rs_v (v_move rfl) rfl ?_
    refine rs_v (v_assign rfl) rfl ?_
    refine rs_nil ?_
    refine q_thn ?_
    refine tr_ret ?_
    refine q_ret (res_tmp rfl rfl) ?_
    rw [List.take_length] at hout0 hn
    exact ⟨hout0.fin cSpan_st hn (Nat.le_refl _) cSpan_r, K⟩
  -- yes
  simp only [decide_eq_true_eq, decide_eq_false_iff_not] at hif
  rcases hx with rfl | ⟨b, o, rfl, hAb, hR⟩
  · simp at hif; omega
  obtain ⟨x, hsk⟩ := ex_get (L := W) (k := k) (by omega)
  have hkl : k < W.length := (List.getElem?_eq_some_iff.1 hsk).1
  have KL0 := K.1
  obtain ⟨kv, hcc, hkx⟩ := hR k x hsk
  obtain ⟨ka, kc, rfl⟩ := hkx.form2
  have hcells := K.cells (by simp) hcc
  have hnk : n = k := by rw [hn, List.length_map, List.length_take]; omega
  refine tr_skip ?_
  refine q_thn ?_
  refine tr_seq ?_
  refine tr_block ?_
  refine tr_seq ?_
  refine tr_reg ?_
  refine rs_v (v_indexAddrN u_sl_spec_Span siz_spec_Span rfl rfl (by omega)) rfl ?_
  refine rs_v (v_loadAgg (vs := [_, _, _]) many_spec_Span rfl (by exact hcells)) rfl ?_
  refine rs_w (w_new zero_spec_Span) rfl ?_
  rintro _ h2 ⟨rfl, B2, K2, Z2⟩
  have O := O.keep2 K2 (fun x hm => by have := hob x hm; simp; try omega)
  have S2 := K.1; have K := K.new0 K2; have KL := KL.new0 K2
  refine rs_w0 (w_put siz_spec_Span rfl rfl rfl rfl B2 rfl) ?_
  rintro _ h3 ⟨B3, K3⟩
  have O := O.keep2 K3 (fun x hm => by have := hob x hm; simp; try omega)
  have B2 := B3; have K := K.new1 K3 (by first | (right; omega) | (left; simp; done)); have Z3 := K3.1; have KL := KL.new1 K3 (.inr (by omega))
  refine rs_nil ?_
  refine q_thn ?_
  refine tr_seq ?_
  refine tr_reg ?_
  refine rs_v (v_fieldAddr fa_spec_Span_2 rfl) rfl ?_
  refine rs_v (v_load one_sl_spec_SpanKey rfl (by exact B2.cell _ rfl)) rfl ?_
  refine rs_w (w_call (vs := [_]) ok_spec_SpanCanon rfl ⟨rfl, trivial⟩ (c_SpanCanon χ _ A (hA.mono (by omega)) _ x.ks (hkx.stab (K.st hA)) (hm x (List.mem_of_getElem? hsk)))) rfl ?_
  rintro kv4 h4 ⟨hkv4, K4⟩
  obtain ⟨a4, c4, rfl⟩ := hkv4.form2
  have B2 := K4.blk (by simp) B2
  have O := O.keep2 K4 (fun x hm => by have := hob x hm; simp; try omega)
  have K := K.new0 K4; have Z4 := K4.1; have KL := KL.new0 K4
  refine rs_v (v_fieldAddr fa_spec_Span_2 rfl) rfl ?_
  refine rs_w0 (w_put siz_sl_spec_SpanKey rfl rfl rfl rfl B2 rfl) ?_
  rintro _ h5 ⟨B5, K5⟩
  have O := O.keep2 K5 (fun x hm => by have := hob x hm; simp; try omega)
  have B2 := B5; have K := K.new1 K5 (by first | (right; omega) | (left; simp; done)); have Z5 := K5.1; have KL := KL.new1 K5 (.inr (by omega))
  refine rs_nil ?_
  refine q_thn ?_
  refine tr_reg ?_
  refine rs_v (v_move rfl) rfl ?_
  refine rs_v (v_loadAgg (vs := [_, _, _]) many_spec_Span rfl (by exact B2.sub _ 3 rfl)) rfl ?_
  refine rs_w (w_new1 u_sl_spec_Span siz_spec_Span zero_spec_Span rfl rfl rfl rfl rfl) rfl ?_
  rintro _ h6 ⟨rfl, B6, K6, Z6⟩
  have B2 := K6.blk (by simp) B2
  have O := O.keep2 K6 (fun x hm => by have := hob x hm; simp; try omega)
  have S6 := K.1; have K := K.new0 K6; have KL := KL.new0 K6
  refine rs_w (w_app1 u_sl_spec_Span info_spec_Span rfl rfl rfl O rfl rfl B6 rfl (by omega) (by omega) (by omega)) rfl ?_
  rintro v7 h7 ⟨O7, K7, N7, F7⟩
  have K := K.newX K7 (fun x hm => .inr (by have := hob x hm; omega)); have Z7 := K7.1
  have B2 := K7.blk (fun hm => by have := hob _ hm; omega) B2
  have B6 := K7.blk (fun hm => by have := hob _ hm; omega) B6
  refine rs_v (v_assign rfl) rfl ?_
  refine rs_nil ?_
  refine q_blk_n ?_
  refine q_thn ?_
  refine tr_reg ?_
  refine rs_v (v_add rfl rfl (by omega) (by omega)) rfl ?_
  refine rs_v (v_move rfl) rfl ?_
  refine rs_nil ?_
  refine q_lp (W.length - (k + 1)) [(3, _), (6, _), (7, _), (8, _)] (by omega) ⟨rfl, rfl, rfl, rfl, trivial⟩ ⟨k + 1, v7, n + 1, by omega, rfl, rfl, K, ?_, ?_⟩
  · rw [take_snoc' hsk, List.map_append]; rw [List.length_append, ← hn]; rfl
  · rw [take_snoc' hsk, List.map_append]
    exact OutR.snoc cSpan_st (n0low h) (by omega) hob hrow hF KL0 KL O7 K7 F7 rfl (⟨_, rfl, (upk (n0low _) (by omega) (rk_skip hkv4 Z4 K5 (by omega)) K6).mono (n0up (by omega) (Nat.le_refl _))⟩)
theorem c_spanLike (χ : Chi) (h : Heap) (A A2 : Nat → Prop) (hA : Low A h) (hA2 : Low A2 h) (v u : Value) (W W2 : List SpanD) (hW : RSpans A h v W) (hW2 : RSpans A2 h u W2) (hn : W.length ≤ 100000) (hn2 : W2.length ≤ 100000) (hm : ∀ s, s ∈ W → few s) (hm2 : ∀ s, s ∈ W2 → few s) (hlk : Like W W2) :
    Cl Try.prog χ 45 #[v, u] h (fun r h' => r = .bool true ∧ Keep [] h h') := by
  obtain ⟨a2, c2, rfl⟩ := SlR.form2 hW2
  refine cl_intro Try.func45 rfl rfl rfl ?_
  have K : Keep [] h h := Keep.refl _ _
  refine tr_seq ?_
  refine tr_reg ?_
  refine rs_v (v_assign rfl) rfl ?_
  refine rs_nil ?_
  refine q_thn ?_
  refine tr_seq ?_
  refine tr_reg ?_
  refine rs_v (v_move rfl) rfl ?_
  refine rs_w (w_call (vs := [_]) ok_laws_ofSpans rfl ⟨rfl, trivial⟩ (c_ofSpans χ h A hA _ W hW hn hm)) rfl ?_
  rintro v1 h1 ⟨hl1, K1⟩
  obtain ⟨hlen, a, c, rfl, hx⟩ := SlR.form hl1
  have K := K.new0 K1; have Z1 := K1.1
  refine rs_v (v_assign rfl) rfl ?_
  refine rs_nil ?_
  refine q_thn ?_
  refine tr_seq ?_
  refine tr_seq ?_
  refine tr_reg ?_
  refine rs_v (v_move rfl) rfl ?_
  refine rs_v (v_len u_sl_spec_Span rfl) rfl ?_
  refine rs_v (v_move rfl) rfl ?_
  refine rs_nil ?_
  refine q_thn ?_
  refine tr_block ?_
  refine tr_loop (fun m E h' => ∃ k, k ≤ W.length ∧ m = W.length - k ∧ E = [(1, .slice a2 W2.length c2), (5, .slice a W.length c), (10, .slice a W.length c), (11, .int .i64 (W.length : Int)), (12, .int .i64 (k : Int))] ∧ Keep [] h h' ∧ Keep [] h1 h') W.length [(1, _), (5, _), (10, _), (11, _), (12, _)] ⟨rfl, rfl, rfl, rfl, rfl, trivial⟩ ⟨0, Nat.zero_le _, rfl, rfl, K, Keep.refl _ _⟩ ?_
  rintro m E hL2 ⟨k, hk, rfl, rfl, K, KA⟩
  refine tr_seq ?_
  refine tr_reg ?_
  refine rs_v (v_lt rfl rfl) rfl ?_
  refine rs_nil ?_
  refine q_thn ?_
  refine tr_seq ?_
  refine tr_ifn rfl (fun hif => ?_) (fun hif => ?_)
  · -- no
    simp only [decide_eq_true_eq, decide_eq_false_iff_not] at hif
    refine tr_exit ?_
    refine q_thn_exit ?_
    refine q_lp_exit ?_
    refine q_blk_hit ?_
    refine q_thn ?_
    refine tr_seq ?_
    refine tr_reg ?_
    refine rs_v (v_move rfl) rfl ?_
    refine rs_w (w_call (vs := [_]) ok_laws_spanCanons rfl ⟨rfl, trivial⟩ (c_spanCanons χ _ (Up A h h1) ((hA.up Z1).mono KA.1) _ W (RSpans.stab hl1 (KA.st (hA.up Z1))) hn hm)) rfl ?_
    rintro v2 h3 ⟨hl2, K3⟩
    have KA := KA.newX K3 (fun x hx => .inr (by first | (simp at hx; done) | (simp at hx; omega)))
    have K := K.new0 K3; have Z3 := K3.1
    refine rs_v (v_move rfl) rfl ?_
    refine rs_w (w_call (vs := [_]) ok_laws_spanCanons rfl ⟨rfl, trivial⟩ (c_spanCanons χ _ A2 (hA2.mono K.1) _ W2 (hW2.stab (K.st hA2)) hn2 hm2)) rfl ?_
    rintro v3 h4 ⟨hl3, K4⟩
    have hz2 := K3.1
    have hl2 := hl2.stab (K4.st ((n0low _).up hz2))
    obtain ⟨aa2, cc2, rfl⟩ := SlR.form2 hl2
    obtain ⟨aa3, cc3, rfl⟩ := SlR.form2 hl3
    have KA := KA.newX K4 (fun x hx => .inr (by first | (simp at hx; done) | (simp at hx; omega)))
    have K := K.new0 K4; have Z4 := K4.1
    refine rs_w (w_call (vs := [_, _]) ok_laws_sameSpans rfl ⟨rfl, rfl, trivial⟩ (c_sameSpans χ _ _ _ (((n0low _).up hz2).mono Z4) ((n0low _).up Z4) _ _ (W.map canonS) hl2 (by rw [hlk.1]; exact hl3))) rfl ?_
    rintro _ h5 ⟨rfl, K5⟩
    have KA := KA.newX K5 (fun x hx => .inr (by first | (simp at hx; done) | (simp at hx; omega)))
    have K := K.new0 K5; have Z5 := K5.1
    refine rs_v (v_assign rfl) rfl ?_
    refine rs_nil ?_
    refine q_thn ?_
    refine tr_ret ?_
    refine q_ret (res_tmp rfl rfl) ?_
    exact ⟨rfl, K⟩
  -- yes
  simp only [decide_eq_true_eq, decide_eq_false_iff_not] at hif
  rcases hx with rfl | ⟨b, o, rfl, hAb, hR⟩
  · simp at hif; omega
  obtain ⟨x, hsk⟩ := ex_get (L := W) (k := k) (by omega)
  obtain ⟨kv, hcc, hkx⟩ := hR k x hsk
  obtain ⟨ka, kc, rfl⟩ := hkx.form2
  have hcells := KA.cells (by simp) hcc
  have hZA := KA.1
  have hd := hlk.2 x (List.mem_of_getElem? hsk)
  refine tr_skip ?_
  refine q_thn ?_
  refine tr_seq ?_
  refine tr_block ?_
  refine tr_seq ?_
  refine tr_reg ?_
  refine rs_v (v_indexAddrN u_sl_spec_Span siz_spec_Span rfl rfl (by omega)) rfl ?_
  refine rs_v (v_loadAgg (vs := [_, _, _]) many_spec_Span rfl (by exact hcells)) rfl ?_
  refine rs_w (w_new zero_spec_Span) rfl ?_
  rintro _ h6 ⟨rfl, B6, K6, Z6⟩
  have KA := KA.newX K6 (fun x hx => .inr (by first | (simp at hx; done) | (simp at hx; omega)))
  have S6 := K.1; have K := K.new0 K6
  refine rs_w0 (w_put siz_spec_Span rfl rfl rfl rfl B6 rfl) ?_
  rintro _ h7 ⟨B7, K7⟩
  have KA := KA.newX K7 (fun x hx => .inr (by first | (simp at hx; done) | (simp at hx; omega)))
  have B6 := B7; have K := K.new1 K7 (by first | (right; omega) | (left; simp; done)); have Z7 := K7.1
  refine rs_nil ?_
  refine q_thn ?_
  refine tr_seq ?_
  refine tr_reg ?_
  refine rs_v (v_fieldAddr fa_spec_Span_2 rfl) rfl ?_
  refine rs_v (v_load one_sl_spec_SpanKey rfl (by exact B6.cell _ rfl)) rfl ?_
  refine rs_w (w_call (vs := [_]) ok_spec_SpanDescending rfl ⟨rfl, trivial⟩ (c_SpanDescending χ _ (Up A h h1) _ x.ks (hkx.stab (KA.st (hA.up Z1))))) rfl ?_
  rintro _ h8 ⟨rfl, hsame⟩; have hsame := hsame.symm; subst hsame
  refine rs_v (v_not rfl) rfl ?_
  refine rs_nil ?_
  refine q_thn ?_
  refine tr_if_f (lkb (by rw [hd]; rfl)) ?_
  refine tr_skip ?_
  refine q_blk_n ?_
  refine q_thn ?_
  refine tr_reg ?_
  refine rs_v (v_add rfl rfl (by omega) (by omega)) rfl ?_
  refine rs_v (v_move rfl) rfl ?_
  refine rs_nil ?_
  refine q_lp (W.length - (k + 1)) [(1, _), (5, _), (10, _), (11, _), (12, _)] (by omega) ⟨rfl, rfl, rfl, rfl, rfl, trivial⟩ ⟨k + 1, by omega, rfl, rfl, K, KA⟩
theorem c_spanAnswers (χ : Chi) (h : Heap) (A A2 : Nat → Prop) (hA : Low A h) (hA2 : Low A2 h) (v u : Value) (G D : List AnsD) (hG : RAnss A h v G) (hD : RAnss A2 h u D) (hal : AnsLike G D) :
    Cl Try.prog χ 17 #[v, u] h (fun r h' => r = .bool true ∧ Keep [] h h') := by
  obtain ⟨hlen, a, c, rfl, hx⟩ := hG.form
  obtain ⟨_, a2, c2, rfl, hx2⟩ := hD.form
  obtain ⟨hGD, hall⟩ := hal
  rw [← hGD]
  refine cl_intro Try.func17 rfl rfl rfl ?_
  have K : Keep [] h h := Keep.refl _ _
  refine tr_seq ?_
  refine tr_reg ?_
  refine rs_v (v_assign rfl) rfl ?_
  refine rs_nil ?_
  refine q_thn ?_
  refine tr_seq ?_
  refine tr_seq ?_
  refine tr_reg ?_
  refine rs_v (v_move rfl) rfl ?_
  refine rs_v (v_len u_sl_impl_SpanAnswer rfl) rfl ?_
  refine rs_v (v_move rfl) rfl ?_
  refine rs_v (v_len u_sl_spec_SpanAnswer rfl) rfl ?_
  refine rs_v (v_ne rfl rfl) rfl ?_
  refine rs_nil ?_
  refine q_thn ?_
  refine tr_if_f (lkb (decide_eq_false (by simp))) ?_
  refine tr_skip ?_
  refine q_thn ?_
  refine tr_seq ?_
  refine tr_seq ?_
  refine tr_reg ?_
  refine rs_v (v_move rfl) rfl ?_
  refine rs_v (v_len u_sl_impl_SpanAnswer rfl) rfl ?_
  refine rs_v (v_move rfl) rfl ?_
  refine rs_nil ?_
  refine q_thn ?_
  refine tr_block ?_
  refine tr_loop (fun m E h' => ∃ k, k ≤ G.length ∧ m = G.length - k ∧ E = [(1, .slice a2 G.length c2), (13, .slice a G.length c), (14, .int .i64 (G.length : Int)), (15, .int .i64 (k : Int))] ∧ Keep [] h h') G.length [(1, _), (13, _), (14, _), (15, _)] ⟨rfl, rfl, rfl, rfl, trivial⟩ ⟨0, Nat.zero_le _, rfl, rfl, K⟩ ?_
  rintro m E hL1 ⟨k, hk, rfl, rfl, K⟩
  refine tr_seq ?_
  refine tr_reg ?_
  refine rs_v (v_lt rfl rfl) rfl ?_
  refine rs_nil ?_
  refine q_thn ?_
  refine tr_seq ?_
  refine tr_ifn rfl (fun hif => ?_) (fun hif => ?_)
  · -- no
    simp only [decide_eq_true_eq, decide_eq_false_iff_not] at hif
    refine tr_exit ?_
    refine q_thn_exit ?_
    refine q_lp_exit ?_
    refine q_blk_hit ?_
    refine q_thn ?_
    refine tr_seq ?_
    refine tr_reg ?_
    refine rs_v (v_assign rfl) rfl ?_
    refine rs_nil ?_
    refine q_thn ?_
    refine tr_ret ?_
    refine q_ret (res_tmp rfl rfl) ?_
    exact ⟨rfl, K⟩
  -- yes
  simp only [decide_eq_true_eq, decide_eq_false_iff_not] at hif
  rcases hx with rfl | ⟨b, o, rfl, hAb, hR⟩
  · simp at hif; omega
  rcases hx2 with rfl | ⟨b2, o2, rfl, hAb2, hR2⟩
  · have : G.length = 0 := hGD
    omega
  obtain ⟨x, hsk⟩ := ex_get (L := G) (k := k) (by omega)
  obtain ⟨y, hyk⟩ := ex_get (L := D) (k := k) (by omega)
  obtain ⟨kv, hc1, hkx⟩ := hR k x hsk
  obtain ⟨kv2, hc2, hky⟩ := hR2 k y hyk
  obtain ⟨ka, kc, rfl⟩ := hkx.form2
  obtain ⟨ka2, kc2, rfl⟩ := hky.form2
  obtain ⟨hdn, hoo, hlk⟩ := hall k x y hsk hyk
  have d1 : (x.done != y.done) = false := by rw [hdn]; simp
  have d2 : (x.ok != y.ok) = false := by rw [hoo]; simp
  have hc1 := K.cells (by simp) hc1
  refine tr_skip ?_
  refine q_thn ?_
  refine tr_seq ?_
  refine tr_block ?_
  refine tr_seq ?_
  refine tr_reg ?_
  refine rs_v (v_move rfl) rfl ?_
  refine rs_v (v_indexAddrN u_sl_impl_SpanAnswer siz_impl_SpanAnswer rfl rfl (by omega)) rfl ?_
  refine rs_v (v_loadAgg (vs := [_, _, _, _, _]) many_impl_SpanAnswer rfl (by exact hc1)) rfl ?_
  refine rs_w (w_new zero_impl_SpanAnswer) rfl ?_
  rintro _ h2 ⟨rfl, B2, K2, Z2⟩
  have S2 := K.1; have K := K.new0 K2
  refine rs_v (v_assign rfl) rfl ?_
  refine rs_w0 (w_put siz_impl_SpanAnswer rfl rfl rfl rfl B2 rfl) ?_
  rintro _ h3 ⟨B3, K3⟩
  have B2 := B3; have K := K.new1 K3 (by first | (right; omega) | (left; simp; done)); have Z3 := K3.1
  refine rs_nil ?_
  refine q_thn ?_
  refine tr_seq ?_
  refine tr_reg ?_
  refine rs_v (v_move rfl) rfl ?_
  refine rs_v (v_move rfl) rfl ?_
  refine rs_v (v_indexAddrN u_sl_spec_SpanAnswer siz_spec_SpanAnswer rfl rfl (by omega)) rfl ?_
  refine rs_v (v_loadAgg (vs := [_, _, _, _, _]) many_spec_SpanAnswer rfl (by exact K.cells (by simp) hc2)) rfl ?_
  refine rs_w (w_new zero_spec_SpanAnswer) rfl ?_
  rintro _ h4 ⟨rfl, B4, K4, Z4⟩
  have B2 := K4.blk (by simp) B2
  have S4 := K.1; have K := K.new0 K4
  refine rs_w0 (w_put siz_spec_SpanAnswer rfl rfl rfl rfl B4 rfl) ?_
  rintro _ h5 ⟨B5, K5⟩
  have B2 := K5.blk (by simp; omega) B2
  have B4 := B5; have K := K.new1 K5 (by first | (right; omega) | (left; simp; done)); have Z5 := K5.1
  refine rs_nil ?_
  refine q_thn ?_
  refine tr_cut (fun E h' => Keep [] h h' ∧ E = [(1, .slice (some ⟨b2, o2, none⟩) G.length c2), (13, .slice (some ⟨b, o, none⟩) G.length c), (14, .int .i64 (G.length : Int)), (15, .int .i64 (k : Int)), (49, .bool false)]) ?_ ?_
  ·
    rcases Bool.eq_false_or_eq_true x.ok with hok | hok
    · skip
      refine tr_reg ?_
      refine rs_v (v_fieldAddr fa_impl_SpanAnswer_0 rfl) rfl ?_
      refine rs_v (v_load one_bool rfl (by exact B2.cell _ rfl)) rfl ?_
      refine rs_v (v_fieldAddr fa_spec_SpanAnswer_0 rfl) rfl ?_
      refine rs_v (v_load one_bool rfl (by exact B4.cell _ rfl)) rfl ?_
      refine rs_v (v_bne u_bool rfl rfl) rfl ?_
      refine rs_v (v_move rfl) rfl ?_
      refine rs_gv rfl (lkb d1) (v_fieldAddr fa_impl_SpanAnswer_1 rfl) rfl ?_
      refine rs_gv rfl (lkb d1) (v_load one_bool rfl (by exact B2.cell _ rfl)) rfl ?_
      refine rs_gv rfl (lkb d1) (v_fieldAddr fa_spec_SpanAnswer_1 rfl) rfl ?_
      refine rs_gv rfl (lkb d1) (v_load one_bool rfl (by exact B4.cell _ rfl)) rfl ?_
      refine rs_gv rfl (lkb d1) (v_bne u_bool rfl rfl) rfl ?_
      refine rs_v (v_pick_f (lkb d1) rfl) rfl ?_
      refine rs_v (v_move rfl) rfl ?_
      refine rs_gv rfl (lkb d2) (v_fieldAddr fa_impl_SpanAnswer_1 rfl) rfl ?_
      refine rs_gv rfl (lkb d2) (v_load one_bool rfl (by exact B2.cell _ rfl)) rfl ?_
      refine rs_gv rfl (lkb d2) (v_move rfl) rfl ?_
      refine rs_gv rfl (lkb hok) (v_fieldAddr fa_impl_SpanAnswer_2 rfl) rfl ?_
      refine rs_gv rfl (lkb hok) (v_loadAgg (vs := [_, _, _]) many_impl_Span rfl (by exact B2.sub _ 3 rfl)) rfl ?_
      refine rs_gw rfl (lkb hok) (w_new1 u_sl_impl_Span siz_impl_Span zero_impl_Span rfl rfl rfl rfl rfl) rfl ?_
      rintro _ h6 ⟨rfl, B6, K6, Z6⟩
      have B2 := K6.blk (by simp) B2
      have B4 := K6.blk (by simp) B4
      have S6 := K.1; have K := K.new0 K6
      refine rs_gv rfl (lkb hok) (v_fieldAddr fa_spec_SpanAnswer_2 rfl) rfl ?_
      refine rs_gv rfl (lkb hok) (v_loadAgg (vs := [_, _, _]) many_spec_Span rfl (by exact B4.sub _ 3 rfl)) rfl ?_
      refine rs_gw rfl (lkb hok) (w_new1 u_sl_spec_Span siz_spec_Span zero_spec_Span rfl rfl rfl rfl rfl) rfl ?_
      rintro _ h7 ⟨rfl, B7, K7, Z7⟩
      have B2 := K7.blk (by simp) B2
      have B4 := K7.blk (by simp) B4
      have B6 := K7.blk (by simp) B6
      have S7 := K.1; have K := K.new0 K7
      refine rs_gw rfl (lkb hok) (w_call (vs := [_, _]) ok_laws_spanLike rfl ⟨rfl, rfl, trivial⟩ (c_spanLike χ _ (Up A h h7) (Up A2 h h7) (hA.up (by omega)) (hA2.up (by omega)) _ _ [x.sp] [y.sp] (rspans1 B6 (hkx.stab (K.st hA) |>.mono Up.old) (.inr ⟨by omega, by omega⟩)) (rspans1 B7 (hky.stab (K.st hA2) |>.mono Up.old) (.inr ⟨by omega, by omega⟩)) (by simp) (by simp)
            (by simpa using (hlk hok).2.1) (by simpa using (hlk hok).2.2) (hlk hok).1)) rfl ?_
      rintro _ h8 ⟨rfl, K8⟩
      have B2 := K8.blk (by simp) B2
      have B4 := K8.blk (by simp) B4
      have B6 := K8.blk (by simp) B6
      have B7 := K8.blk (by simp) B7
      have K := K.new0 K8; have Z8 := K8.1
      refine rs_gv rfl (lkb hok) (v_not rfl) rfl ?_
      refine rs_gv rfl (lkb d2) (v_pick_t (lkb hok) rfl) rfl ?_
      refine rs_v (v_pick_f (lkb d2) rfl) rfl ?_
      refine rs_nil ?_
      exact q_cut [(1, _), (13, _), (14, _), (15, _), (49, _)] ⟨rfl, rfl, rfl, rfl, rfl, trivial⟩ ⟨K, by first | rfl | (rw [d2]; rfl)⟩
    · skip
      refine tr_reg ?_
      refine rs_v (v_fieldAddr fa_impl_SpanAnswer_0 rfl) rfl ?_
      refine rs_v (v_load one_bool rfl (by exact B2.cell _ rfl)) rfl ?_
      refine rs_v (v_fieldAddr fa_spec_SpanAnswer_0 rfl) rfl ?_
      refine rs_v (v_load one_bool rfl (by exact B4.cell _ rfl)) rfl ?_
      refine rs_v (v_bne u_bool rfl rfl) rfl ?_
      refine rs_v (v_move rfl) rfl ?_
      refine rs_gv rfl (lkb d1) (v_fieldAddr fa_impl_SpanAnswer_1 rfl) rfl ?_
      refine rs_gv rfl (lkb d1) (v_load one_bool rfl (by exact B2.cell _ rfl)) rfl ?_
      refine rs_gv rfl (lkb d1) (v_fieldAddr fa_spec_SpanAnswer_1 rfl) rfl ?_
      refine rs_gv rfl (lkb d1) (v_load one_bool rfl (by exact B4.cell _ rfl)) rfl ?_
      refine rs_gv rfl (lkb d1) (v_bne u_bool rfl rfl) rfl ?_
      refine rs_v (v_pick_f (lkb d1) rfl) rfl ?_
      refine rs_v (v_move rfl) rfl ?_
      refine rs_gv rfl (lkb d2) (v_fieldAddr fa_impl_SpanAnswer_1 rfl) rfl ?_
      refine rs_gv rfl (lkb d2) (v_load one_bool rfl (by exact B2.cell _ rfl)) rfl ?_
      refine rs_gv rfl (lkb d2) (v_move rfl) rfl ?_
      refine rs_gs rfl (lkb hok) rfl rfl ?_
      refine rs_gs rfl (lkb hok) rfl rfl ?_
      refine rs_gs rfl (lkb hok) rfl rfl ?_
      refine rs_gs rfl (lkb hok) rfl rfl ?_
      refine rs_gs rfl (lkb hok) rfl rfl ?_
      refine rs_gs rfl (lkb hok) rfl rfl ?_
      refine rs_gs rfl (lkb hok) rfl rfl ?_
      refine rs_gs rfl (lkb hok) rfl rfl ?_
      refine rs_gv rfl (lkb d2) (v_pick_f (lkb hok) rfl) rfl ?_
      refine rs_v (v_pick_f (lkb d2) rfl) rfl ?_
      refine rs_nil ?_
      exact q_cut [(1, _), (13, _), (14, _), (15, _), (49, _)] ⟨rfl, rfl, rfl, rfl, rfl, trivial⟩ ⟨K, by first | rfl | (rw [d2]; rfl)⟩
  rintro E h99 ⟨K, rfl⟩
  refine tr_if_f rfl ?_
  refine tr_skip ?_
  refine q_blk_n ?_
  refine q_thn ?_
  refine tr_reg ?_
  refine rs_v (v_add rfl rfl (by omega) (by omega)) rfl ?_
  refine rs_v (v_move rfl) rfl ?_
  refine rs_nil ?_
  refine q_lp (G.length - (k + 1)) [(1, _), (13, _), (14, _), (15, _)] (by omega) ⟨rfl, rfl, rfl, rfl, trivial⟩ ⟨k + 1, by omega, rfl, rfl, K⟩
end Go.Proofs.Ytgebfbnndgjkiaa
namespace Go.Proofs.Ytgebfbnndgjkiaa
open Go.Tess Go.RowKit
set_option maxRecDepth 100000
set_option maxHeartbeats 1000000
theorem bsplit2 (a : Bool) : a = true ∨ a = false := Bool.eq_false_or_eq_true a
theorem bsplit3 (a b : Bool) : a = true ∨ (a = false ∧ b = true) ∨ (a = false ∧ b = false) := by cases a <;> cases b <;> simp
theorem bsplit4 (a b c : Bool) : a = true ∨ (a = false ∧ b = true) ∨ (a = false ∧ b = false ∧ c = true) ∨ (a = false ∧ b = false ∧ c = false) := by cases a <;> cases b <;> cases c <;> simp
theorem desc_pair : ∀ (ks : List KeyD), descB ks = true ↔ ks.Pairwise (fun a b => b.tr ≤ a.tr)
  | [] => by simp [descB, chainB]
  | [a] => by simp [descB, chainB]
  | a :: b :: l => by
    have ih := desc_pair (b :: l)
    simp only [descB, chainB, Bool.and_eq_true, decide_eq_true_eq] at ih ⊢
    rw [ih, List.pairwise_cons (a := a)]
    constructor
    · rintro ⟨h1, h2⟩
      refine ⟨fun x hx => ?_, h2⟩
      rcases List.mem_cons.1 hx with rfl | hx
      · exact h1
      · exact Int.le_trans ((List.pairwise_cons.1 h2).1 x hx) h1
    · rintro ⟨h1, h2⟩
      exact ⟨h1 b (by simp), h2⟩
structure Good (W : List SpanD) : Prop where
  len : W.length ≤ 40
  full : ∀ s, s ∈ W → slt s.s s.e = true ∧ s.ks ≠ [] ∧ descB s.ks = true ∧ s.ks.length ≤ 40
  small : ∀ s, s ∈ W → SpanD.small s
  ord : Tess.Ord W
theorem Good.few {W : List SpanD} (h : Good W) : ∀ s, s ∈ W → few s := fun s hs => by have := (h.full s hs).2.2.2; unfold Go.Proofs.Ytgebfbnndgjkiaa.few; omega
theorem Good.n {W : List SpanD} (h : Good W) : W.length ≤ 100000 := by have := h.len; omega
theorem good_of {W : List SpanD} {n : Int} (hn : n ≤ 40) (h4 : fit4 W = true) (hm : (mostB W n && wellB W) = true) : Good W ∧ (W.length : Int) ≤ n := by
  simp only [fit4, mostB, wellB, Bool.and_eq_true, List.all_eq_true, decide_eq_true_eq] at h4 hm
  obtain ⟨⟨hm1, hm2⟩, hw1, hw2⟩ := hm
  have hfull : ∀ s, s ∈ W → slt s.s s.e = true ∧ s.ks ≠ [] ∧ descB s.ks = true ∧ s.ks.length ≤ 40 := fun s hs => by
    have := hw1 s hs
    simp only [fullB, Bool.and_eq_true, decide_eq_true_eq] at this
    exact ⟨this.1, fun e => by rw [e] at this; simp at this, this.2.2, hm1 s hs⟩
  refine ⟨⟨by omega, hfull, fun s hs => ?_, ⟨fun s hs => (hfull s hs).1, fun i a b ha hb => (chainB_iff _ W).1 hw2 i a b ha hb⟩⟩, hm2⟩
  have h5 := h4.2 s hs
  simp only [fit5, fit6, Bool.and_eq_true, List.all_eq_true, decide_eq_true_eq, MX] at h5
  refine ⟨by omega, by omega, by have := hm1 s hs; omega, fun k hk => ?_⟩
  have h7 := h5.2.2 k hk
  simp only [fit7, Bool.and_eq_true, decide_eq_true_eq, MX] at h7
  exact ⟨by omega, by omega⟩
theorem fit8_small {l : List StepD} (h : fit8 l = true) : ∀ s, s ∈ l → s.key.size ≤ 9223372036854775807 := fun s hs => by
  simp only [fit8, Bool.and_eq_true, List.all_eq_true] at h
  have := h.2 s hs
  simp only [fit9, decide_eq_true_eq, MX] at this
  omega
theorem ansOf_mem {W : List SpanD} {q : Option Pos} (h : (ansOf W q).ok = true) : (ansOf W q).sp ∈ W := by
  obtain ⟨j, sp, rfl, hj, ha⟩ := ans_ok h
  rw [ha]; exact List.mem_of_getElem? hj
theorem walkP_mem {W : List SpanD} : ∀ (l : List StepD) (p : Pos) a, a ∈ walkP W p l → a.ok = true → a.sp ∈ W
  | [], p, a, h, _ => by simp [walkP] at h
  | s :: l, p, a, h, ho => by
    simp only [walkP, List.mem_cons] at h
    rcases h with rfl | h
    · exact ansOf_mem ho
    · exact walkP_mem l _ a h ho
theorem ansLike_walk {W : List SpanD} (h : ∀ s, s ∈ W → descB s.ks = true ∧ few s) (p : Pos) (l : List StepD) : AnsLike (walkP W p l) (walkP W p l) :=
  ⟨rfl, fun i a b ha hb => by
    rw [ha] at hb; cases hb
    exact ⟨rfl, rfl, fun ho => by
      have hm := h _ (walkP_mem l p a (List.mem_of_getElem? ha) ho)
      exact ⟨Like.refl (by simpa using hm.1), hm.2, hm.2⟩⟩⟩

theorem c_spanWell_t (χ : Chi) (h : Heap) (A : Nat → Prop) (hA : Low A h) (v : Value) (W : List SpanD) (n : Int) (hW : RSpans A h v W) (hq : mostB W n = true) :
    Cl Try.prog χ 14 #[v, .int .i64 n] h (fun r h' => r = .bool (mostB W n && wellB W) ∧ Keep [] h h') := by
  refine cl_intro Try.func14 rfl rfl rfl ?_
  have K : Keep [] h h := Keep.refl _ _
  refine tr_seq ?_
  refine tr_reg ?_
  refine rs_v (v_assign rfl) rfl ?_
  refine rs_nil ?_
  refine q_thn ?_
  refine tr_seq ?_
  refine tr_reg ?_
  refine rs_v (v_move rfl) rfl ?_
  refine rs_v (v_move rfl) rfl ?_
  refine rs_w (w_call (vs := [_, _]) ok_laws_spanMost rfl ⟨rfl, rfl, trivial⟩ (c_spanMost χ h A _ W n hW)) rfl ?_
  rintro _ h1 ⟨rfl, K1⟩
  have K := K.new0 K1; have Z1 := K1.1
  refine rs_v (v_move rfl) rfl ?_
  refine rs_gv rfl (lkb hq) (v_move rfl) rfl ?_
  refine rs_gw rfl (lkb hq) (w_call (vs := [_]) ok_spec_SpanWell rfl ⟨rfl, trivial⟩ (c_SpanWell χ _ A (hA.mono K.1) _ W (hW.stab (K.st hA)))) rfl ?_
  rintro _ h2 ⟨rfl, K2⟩
  have K := K.new0 K2; have Z2 := K2.1
  refine rs_v (v_pick_t (lkb hq) rfl) rfl ?_
  refine rs_v (v_assign rfl) rfl ?_
  refine rs_nil ?_
  refine q_thn ?_
  refine tr_ret ?_
  refine q_ret (res_tmp rfl rfl) ?_
  exact ⟨by rw [hq]; rfl, K⟩
theorem c_spanWell_f (χ : Chi) (h : Heap) (A : Nat → Prop) (hA : Low A h) (v : Value) (W : List SpanD) (n : Int) (hW : RSpans A h v W) (hq : mostB W n = false) :
    Cl Try.prog χ 14 #[v, .int .i64 n] h (fun r h' => r = .bool (mostB W n && wellB W) ∧ Keep [] h h') := by
  refine cl_intro Try.func14 rfl rfl rfl ?_
  have K : Keep [] h h := Keep.refl _ _
  refine tr_seq ?_
  refine tr_reg ?_
  refine rs_v (v_assign rfl) rfl ?_
  refine rs_nil ?_
  refine q_thn ?_
  refine tr_seq ?_
  refine tr_reg ?_
  refine rs_v (v_move rfl) rfl ?_
  refine rs_v (v_move rfl) rfl ?_
  refine rs_w (w_call (vs := [_, _]) ok_laws_spanMost rfl ⟨rfl, rfl, trivial⟩ (c_spanMost χ h A _ W n hW)) rfl ?_
  rintro _ h1 ⟨rfl, K1⟩
  have K := K.new0 K1; have Z1 := K1.1
  refine rs_v (v_move rfl) rfl ?_
  refine rs_gs rfl (lkb hq) rfl rfl ?_
  refine rs_gs rfl (lkb hq) rfl rfl ?_
  refine rs_v (v_pick_f (lkb hq) rfl) rfl ?_
  refine rs_v (v_assign rfl) rfl ?_
  refine rs_nil ?_
  refine q_thn ?_
  refine tr_ret ?_
  refine q_ret (res_tmp rfl rfl) ?_
  exact ⟨by rw [hq]; rfl, K⟩
theorem c_spanWell (χ : Chi) (h : Heap) (A : Nat → Prop) (hA : Low A h) (v : Value) (W : List SpanD) (n : Int) (hW : RSpans A h v W) :
    Cl Try.prog χ 14 #[v, .int .i64 n] h (fun r h' => r = .bool (mostB W n && wellB W) ∧ Keep [] h h') := by
  rcases bsplit2 (mostB W n) with hq | hq
  · exact c_spanWell_t χ h A hA v W n hW hq
  · exact c_spanWell_f χ h A hA v W n hW hq
end Go.Proofs.Ytgebfbnndgjkiaa
namespace Go.Proofs.Ytgebfbnndgjkiaa
open Go.Tess Go.RowKit
set_option maxRecDepth 100000
set_option maxHeartbeats 1000000
/-- All blocks that are there. -/
def All (h : Heap) : Nat → Prop := fun b => b < h.size
theorem all_low (h : Heap) : Low (All h) h := fun _ hb => hb
section
variable {h h' : Heap} {v : Value}
theorem all_st (K : Keep [] h h') : Stab (All h) h h' := K.st (all_low h)
theorem all_up (K : Keep [] h h') : ∀ b, All h b → All h' b := fun _ hb => Nat.lt_of_lt_of_le hb K.1
theorem RSpans.kk {W : List SpanD} (hr : RSpans (All h) h v W) (K : Keep [] h h') : RSpans (All h') h' v W := (RSpans.stab hr (all_st K)).mono (all_up K)
theorem RSteps.kk {W : List StepD} (hr : RSteps (All h) h v W) (K : Keep [] h h') : RSteps (All h') h' v W := (RSteps.stab hr (all_st K)).mono (all_up K)
theorem RAnss.kk {W : List AnsD} (hr : RAnss (All h) h v W) (K : Keep [] h h') : RAnss (All h') h' v W := (RAnss.stab hr (all_st K)).mono (all_up K)
theorem upA (K : Keep [] h h') : ∀ b, Up (All h) h h' b → All h' b := (all_low h).up K.1
theorem upN (K : Keep [] h h') : ∀ b, Up N0 h h' b → All h' b := (n0low h).up K.1
end
def startS : List StepD := [⟨0, ByteArray.empty⟩]
theorem start_small : ∀ s, s ∈ startS → s.key.size ≤ 9223372036854775807 := by intro s hs; simp [startS] at hs; subst hs; decide

end Go.Proofs.Ytgebfbnndgjkiaa
namespace Go.Proofs.Ytgebfbnndgjkiaa
open Go.Tess Go.ChangeShapes Go.WideShapes Go.ChangeAt Go.RowKit
set_option maxRecDepth 100000
theorem take_open {α : Type} {n : Nat} {p : Nat → α → Prop} (hh : ∀ i, i < n → ∃ a, p i a) : ∃ xs : List α, xs.length = n ∧ ∀ (i : Nat) a, xs[i]? = some a → p i a := by
  induction n with
  | zero => exact ⟨[], rfl, fun i a h => by simp at h⟩
  | succ n ih =>
    obtain ⟨xs, hl, hx⟩ := ih fun i hi => hh i (by omega)
    obtain ⟨a, ha⟩ := hh n (by omega)
    refine ⟨xs ++ [a], by simp [hl], fun i b hb => ?_⟩
    by_cases hi : i < n
    · rw [List.getElem?_append_left (by omega)] at hb; exact hx i b hb
    · have := (List.getElem?_eq_some_iff.1 hb).1
      simp [hl] at this
      have e : i = n := by omega
      subst e
      rw [List.getElem?_append_right (by omega), hl] at hb
      simp at hb; subst hb; exact ha
section
variable {H : Type} {enc : TypeId × Value → H} {χ : Chi} {h : Heap} {d : Nat} {sp : Nat → Bool} {hd : Bool}
theorem sl_open {P : Program} {α : Type} {t e : TypeId} {sz : Nat} {R : List Value → α → Prop} (ht : P.underlying t = some (.slice e)) (hc : P.cellsOf e = sz) (h0 : 0 < sz)
    (hop : ∀ n cs x, DataW.trod enc P (mkw χ h d) 0 sp hd n e cs = some x → ∃ a, R cs a) {fuel : Nat} {v : Value} {x : DataW H × List MemPlace} (htr : DataW.trod enc P (mkw χ h d) 0 sp hd fuel t [v] = some x) :
    ∃ xs : List α, SlR h (All h) sz (fun h b o a => ∃ cs, CellsAt h b o cs ∧ R cs a) v xs := by
  rcases Deep.open_slice ht htr with ⟨hcs, _⟩ | ⟨a, len, cap, m, n, D, Pl, hcs, _, hl, hm, hmm, _, hel⟩
  · cases hcs; exact ⟨[], SlR.nil _ _ _ _⟩
  cases hcs
  have hlm : len ≤ m := by rw [hmm]; split <;> omega
  obtain ⟨xs, hxl, hx⟩ := take_open (α := α) (n := len) (p := fun i a' => ∃ cs', (mkw χ h d).cells? 0 (a.add (i * sz)) sz = some cs' ∧ R cs' a') fun i hi => by
    obtain ⟨cs', h1, h2⟩ := hel i (by omega)
    rw [hc] at h1
    obtain ⟨a', ha'⟩ := hop _ _ _ h2
    exact ⟨a', cs', h1, ha'⟩
  have hspot : 0 < len → ∃ b o, a = ⟨b, o, none⟩ := fun hpos => by
    obtain ⟨cs', h1, _⟩ := hel 0 (by omega)
    rw [hc] at h1
    obtain ⟨_, hlen, hcell⟩ := World.cells?_some h1
    have h2 := hcell 0 h0
    rw [List.getElem?_eq_getElem (by omega)] at h2
    have h3 := World.cell?_spot h2
    simp [Addr.add] at h3
    obtain ⟨b, o, q⟩ := a
    simp at h3; subst h3
    exact ⟨b, o, rfl⟩
  refine ⟨xs, by unfold maxLen at hm; omega, some a, cap, by rw [hxl], fun i x hi => ?_⟩
  have hlt := (List.getElem?_eq_some_iff.1 hi).1
  obtain ⟨b, o, rfl⟩ := hspot (by omega)
  obtain ⟨cs', h1, h2⟩ := hx i x hi
  obtain ⟨_, hlen, hcell⟩ := World.cells?_some h1
  have hcells : CellsAt h b (o + i * sz) cs' := fun j v hj => by
    have := hcell j (by have := (List.getElem?_eq_some_iff.1 hj).1; omega)
    rw [addr_add, addr_add, cell_mkw, hj] at this
    exact this
  refine ⟨b, o, rfl, ?_, cs', hcells, h2⟩
  have := hcells 0 cs'[0] (List.getElem?_eq_getElem (by omega))
  exact cellH_lt this
theorem field_open {P : Program} {w : World} {T : TypeId} {fs : Array Field} {n : Nat} {cs : List Value} {x : DataW H × List MemPlace} (ht : P.underlying T = some (.struct fs)) (hx : DataW.trod enc P w 0 sp hd n T cs = some x) (i : Nat) (ft off sz : Nat)
    (hf : (fs[i]?).map (fun f => (f.type, f.offset)) = some (ft, off)) (hsz : P.cellsOf ft = sz) : ∃ m y, DataW.trod enc P w 0 sp hd m ft ((cs.drop off).take sz) = some y := by
  obtain ⟨xs, m, _, _, _, hl, hfs⟩ := DataW.trod_struct ht hx
  cases hq : fs[i]? with
  | none => rw [hq] at hf; simp at hf
  | some f =>
    rw [hq] at hf
    simp only [Option.map_some, Option.some.injEq, Prod.mk.injEq] at hf
    have := hfs i f hq
    have hi : i < fs.size := (Array.getElem?_eq_some_iff.1 hq).1
    rw [List.getElem?_eq_getElem (by omega), hf.1, hf.2, hsz] at this
    exact ⟨m, _, this⟩
theorem struct_len {P : Program} {w : World} {T : TypeId} {fs : Array Field} {n sz : Nat} {cs : List Value} {x : DataW H × List MemPlace} (ht : P.underlying T = some (.struct fs)) (hx : DataW.trod enc P w 0 sp hd n T cs = some x) (hsz : P.cellsOf T = sz) : cs.length = sz := by
  obtain ⟨_, _, _, _, hl, _⟩ := DataW.trod_struct ht hx
  rw [hl, hsz]
theorem st_key : Try.prog.underlying 102 = some (.struct (Try.prog.fieldsOf 102)) := by kernel_rfl
theorem st_span : Try.prog.underlying 55 = some (.struct (Try.prog.fieldsOf 55)) := by kernel_rfl
theorem st_step : Try.prog.underlying 52 = some (.struct (Try.prog.fieldsOf 52)) := by kernel_rfl
theorem open_key {n : Nat} {cs : List Value} {x : DataW H × List MemPlace} (hx : DataW.trod enc Try.prog (mkw χ h d) 0 sp hd n 102 cs = some x) : ∃ k : KeyD, cs = k.cells := by
  have hl := struct_len st_key hx (sz := 3) (by kernel_rfl)
  match cs, hl with
  | [c0, c1, c2], _ =>
    obtain ⟨_, _, y0⟩ := field_open st_key hx 0 23 0 1 (by kernel_rfl) (by kernel_rfl)
    obtain ⟨_, _, y1⟩ := field_open st_key hx 1 9 1 1 (by kernel_rfl) (by kernel_rfl)
    obtain ⟨_, _, y2⟩ := field_open st_key hx 2 9 2 1 (by kernel_rfl) (by kernel_rfl)
    obtain ⟨i, e0, _⟩ := DataW.trod_int u_uint64 y0
    obtain ⟨s, e1, _⟩ := DataW.trod_string u_string y1
    obtain ⟨u, e2, _⟩ := DataW.trod_string u_string y2
    cases e0; cases e1; cases e2
    exact ⟨⟨i, s, u⟩, rfl⟩
theorem open_keys {n : Nat} {v : Value} {x : DataW H × List MemPlace} (hx : DataW.trod enc Try.prog (mkw χ h d) 0 sp hd n 53 [v] = some x) : ∃ ks : List KeyD, RKeys (All h) h v ks := by
  obtain ⟨ks, hk⟩ := sl_open (R := fun cs (k : KeyD) => cs = k.cells) u_sl_spec_SpanKey (sz := 3) (by kernel_rfl) (by omega) (fun n cs x hx => open_key hx) hx
  exact ⟨ks, SlR.mono hk (fun _ h => h) fun b o x _ hc => by obtain ⟨cs, h1, rfl⟩ := hc; exact h1⟩
theorem open_span {n : Nat} {cs : List Value} {x : DataW H × List MemPlace} (hx : DataW.trod enc Try.prog (mkw χ h d) 0 sp hd n 55 cs = some x) : ∃ s : SpanD, ∃ kv, cs = [.string s.s, .string s.e, kv] ∧ RKeys (All h) h kv s.ks := by
  have hl := struct_len st_span hx (sz := 3) (by kernel_rfl)
  match cs, hl with
  | [c0, c1, c2], _ =>
    obtain ⟨_, _, y0⟩ := field_open st_span hx 0 9 0 1 (by kernel_rfl) (by kernel_rfl)
    obtain ⟨_, _, y1⟩ := field_open st_span hx 1 9 1 1 (by kernel_rfl) (by kernel_rfl)
    obtain ⟨_, _, y2⟩ := field_open st_span hx 2 53 2 1 (by kernel_rfl) (by kernel_rfl)
    obtain ⟨s, e1, _⟩ := DataW.trod_string u_string y0
    obtain ⟨u, e2, _⟩ := DataW.trod_string u_string y1
    obtain ⟨ks, hk⟩ := open_keys y2
    cases e1; cases e2
    exact ⟨⟨s, u, ks⟩, _, rfl, hk⟩
theorem open_spans {n : Nat} {v : Value} {x : DataW H × List MemPlace} (hx : DataW.trod enc Try.prog (mkw χ h d) 0 sp hd n 22 [v] = some x) : ∃ W : List SpanD, RSpans (All h) h v W := by
  obtain ⟨W, hW⟩ := sl_open (R := fun cs (s : SpanD) => ∃ kv, cs = [.string s.s, .string s.e, kv] ∧ RKeys (All h) h kv s.ks) u_sl_spec_Span (sz := 3) (by kernel_rfl) (by omega) (fun n cs x hx => open_span hx) hx
  exact ⟨W, SlR.mono hW (fun _ h => h) fun b o x _ hc => by obtain ⟨cs, h1, kv, rfl, hk⟩ := hc; exact ⟨kv, h1, hk⟩⟩
theorem open_step {n : Nat} {cs : List Value} {x : DataW H × List MemPlace} (hx : DataW.trod enc Try.prog (mkw χ h d) 0 sp hd n 52 cs = some x) : ∃ k : StepD, cs = k.cells := by
  have hl := struct_len st_step hx (sz := 2) (by kernel_rfl)
  match cs, hl with
  | [c0, c1], _ =>
    obtain ⟨_, _, y0⟩ := field_open st_step hx 0 5 0 1 (by kernel_rfl) (by kernel_rfl)
    obtain ⟨_, _, y1⟩ := field_open st_step hx 1 9 1 1 (by kernel_rfl) (by kernel_rfl)
    obtain ⟨i, e0, _⟩ := DataW.trod_int u_uint8 y0
    obtain ⟨s, e1, _⟩ := DataW.trod_string u_string y1
    cases e0; cases e1
    exact ⟨⟨i, s⟩, rfl⟩
theorem open_steps {n : Nat} {v : Value} {x : DataW H × List MemPlace} (hx : DataW.trod enc Try.prog (mkw χ h d) 0 sp hd n 24 [v] = some x) : ∃ ks : List StepD, RSteps (All h) h v ks := by
  obtain ⟨ks, hk⟩ := sl_open (R := fun cs (k : StepD) => cs = k.cells) u_sl_spec_Step (sz := 2) (by kernel_rfl) (by omega) (fun n cs x hx => open_step hx) hx
  exact ⟨ks, SlR.mono hk (fun _ h => h) fun b o x _ hc => by obtain ⟨cs, h1, rfl⟩ := hc; exact h1⟩
end
theorem below_of {χ : Chi} {h h' : Heap} {d d' : Nat} (K : Keep [] h h') : Below h.size (mkw χ h d) (mkw χ h' d') := ⟨rfl, rfl, rfl, K.1, fun k hk => K.2 k hk (by simp)⟩
theorem laidOut : laidOutB Try.prog = true := by kernel_rfl
theorem trodAll_below {P : Program} (hl : laidOutB P = true) {H : Type} {enc : TypeId × Value → H} {W W' : World} (hb : Below W.heap.size W W') : ∀ (ts : List TypeId) (vs : List Value) (ds : List (DataW H)) (ps : List MemPlace),
    (ts.all fun t => P.readableRec t && decide (t < P.types.size)) = true → DataW.TrodAll enc P W 0 (fun _ => true) true ts vs ds ps → (∀ x, x ∈ ps → x.block < W.heap.size) →
    DataW.TrodAll enc P W' 0 (fun b => decide (b < W.heap.size)) true ts vs ds ps
  | [], vs, ds, ps, _, h, _ => by
    obtain ⟨rfl, rfl, rfl⟩ := trodAll_nil h
    exact trodAll_mk0
  | t :: ts, vs, ds, ps, hr, h, hlt => by
    obtain ⟨v, vs1, d, ds1, a, b, rfl, rfl, rfl, h1, h2⟩ := trodAll_cons h
    rw [List.all_cons, Bool.and_eq_true, Bool.and_eq_true] at hr
    exact ⟨a, b, Below.trod hl hr.1.1 (of_decide_eq_true hr.1.2) h1 hb (fun x hx => hlt x (List.mem_append_left _ hx)),
      trodAll_below hl hb ts vs1 ds1 b hr.2 h2 (fun x hx => hlt x (List.mem_append_right _ hx)), rfl⟩
theorem Try.own : ownKnob Try.prog.godebug = none := by kernel_rfl
theorem law_lift {H : Type} {enc : TypeId × Value → H} {os : Os} (started : os.Started) {f : FuncId} {fn : Func} {s : ChangeSpec} {conds : List PathCond} (noInit : Try.prog.inits.idxOf? f = none) (hfn : Try.prog.funcs[f]? = some fn)
    (witness : ∃ (w : World) (tape : Tape) (i : Input), w.os = os ∧ (w.forCall tape i).Shaped Try.prog ∧ i.vars = [] ∧ Input.okWide Try.prog (w.forCall tape i) .any w.heap.size f i ∧
      s.pre6 enc Try.prog fn conds false (w.forCall tape i).memory i.args ∧ Assume.holds {} Try.prog (lone (Frame.enter Try.prog f i.args .normal) [] (w.forCall tape i)))
    (hres : fn.resultTypes = #[4]) (hvars : s.vars = []) (hread : (fn.params.toList.all fun t => Try.prog.readableRec t && decide (t < Try.prog.types.size)) = true)
    (hs : ∀ ds : List (DataW H), ds.length = fn.params.toList.length → (s.fn H ds).results = [.lit (.bool true)] ∧ (s.fn H ds).args = ds ∧ (s.fn H ds).vars = [])
    (contract : ∀ (W : World) (args : Array Value) (ds : List (DataW H)) (ps : List MemPlace) (b0 : Nat), (∀ (j : Nat) t v, fn.params[j]? = some t → args[j]? = some v → Value.okWide Try.prog W .any b0 t v) →
      DataW.TrodAll enc Try.prog W 0 (fun _ => true) true fn.params.toList args.toList ds ps → Cl Try.prog ⟨W.tape, W.os, W.output⟩ f args W.heap (fun r h' => r = .bool true ∧ Keep [] W.heap h')) :
    ReturnsInHanded {} Try.checked os f .any (s.pre6 enc Try.prog fn conds false) (s.post enc Try.prog fn false true false false) := by
  refine returnsInHanded_of_change (C := Try.checked) Try.own started noInit hfn witness ?_
  intro W base args ds gs before hval hW _ _
  have hW' := hW
  obtain ⟨p, q, hA, hV, rfl, _, _⟩ := hW
  have hlen : ∀ (ts : List TypeId) (vs : List Value) (ds : List (DataW H)) (ps : List MemPlace), DataW.TrodAll enc Try.prog W 0 (fun _ => true) true ts vs ds ps → ds.length = ts.length := by
    intro ts
    induction ts with
    | nil => intro vs ds ps h; obtain ⟨_, rfl, _⟩ := trodAll_nil h; rfl
    | cons t ts ih => intro vs ds ps h; obtain ⟨v, vs1, d, ds1, a, b, rfl, rfl, rfl, h1, h2⟩ := trodAll_cons h; simp [ih _ _ _ h2]
  have hV0 : gs = [] ∧ q = [] := by
    rw [hvars] at hV
    cases gs with
    | nil => exact ⟨rfl, hV⟩
    | cons g gs => exact hV.elim
  obtain ⟨rfl, rfl⟩ := hV0
  obtain ⟨e1, e2, e3⟩ := hs ds (hlen _ _ _ _ hA)
  refine (contract W args ds p base hval hA W.drawn).mono fun e W' hW2 => ?_
  obtain ⟨v, h', d', rfl, rfl, rfl, K⟩ := hW2
  have hb0 : Below W.heap.size (mkw ⟨W.tape, W.os, W.output⟩ W.heap W.drawn) (mkw ⟨W.tape, W.os, W.output⟩ h' d') := below_of K
  have hb : Below W.heap.size W (mkw ⟨W.tape, W.os, W.output⟩ h' d') := hb0
  have hlt : ∀ x ∈ p, x.block < W.heap.size := fun x hx => by simpa using hW'.lt x (by simpa using hx)
  refine ⟨_, rfl, ds, [], p ++ [], [], p, [], hW', ?_, ?_, ?_, hb.frame _, fun h => by cases h⟩
  · rw [List.append_nil, e1, hres]
    exact trodAll_mk1 (shut_bool (show Try.prog.underlying 4 = some .bool from u_bool) _)
  · rw [List.append_nil, e2]
    exact trodAll_below laidOut hb _ _ _ _ hread hA hlt
  · rw [List.append_nil, e3, hvars]
    rfl

end Go.Proofs.Ytgebfbnndgjkiaa
namespace Go.Proofs.Ytgebfbnndgjkiaa
open Go.Tess Go.RowKit
set_option maxRecDepth 100000
set_option maxHeartbeats 1000000
/-- An internal key behind a pointer, or none. -/
def PBnd (G : Nat → Prop) (h : Heap) (p : Option Addr) (k : Option ByteArray) : Prop := match k with
  | none => p = none
  | some k => ∃ b o kv tr, p = some ⟨b, o, none⟩ ∧ G b ∧ CellsAt h b o [kv, tr] ∧ RBytes G h kv k
structure EnvT (bst bcm ben blo bup bpn : Nat) (st en : Option ByteArray) (lo up : ByteArray) (G : Nat → Prop) (h : Heap) : Prop where
  low : Low G h
  g : G bst ∧ G bcm ∧ G ben ∧ G blo ∧ G bup ∧ G bpn
  bs : ∃ p, Blk h bst [.pointer p] 171 ∧ PBnd G h p st
  bc : Blk h bcm [cmpF] 104
  be : ∃ p, Blk h ben [.pointer p] 171 ∧ PBnd G h p en
  bl : ∃ v, Blk h blo [v] 123 ∧ RBytes G h v lo
  bu : ∃ v, Blk h bup [v] 123 ∧ RBytes G h v up
  bp : Blk h bpn [.bool false] 4
theorem PBnd.stab {G : Nat → Prop} {h h' : Heap} {p : Option Addr} {k : Option ByteArray} (hp : PBnd G h p k) (s : Stab G h h') : PBnd G h' p k := by
  cases k with
  | none => exact hp
  | some k =>
    obtain ⟨b, o, kv, tr, e, h1, h2, h3⟩ := hp
    exact ⟨b, o, kv, tr, e, h1, s.cells h1 h2, h3.stab s⟩
section
variable {bst bcm ben blo bup bpn : Nat} {st en : Option ByteArray} {lo up : ByteArray} {G : Nat → Prop} {h h' : Heap}
theorem EnvT.stab (hE : EnvT bst bcm ben blo bup bpn st en lo up G h) (s : Stab G h h') (hz : h.size ≤ h'.size) : EnvT bst bcm ben blo bup bpn st en lo up G h' where
  low := hE.low.mono hz
  g := hE.g
  bs := by obtain ⟨p, h1, h2⟩ := hE.bs; exact ⟨p, (s _ hE.g.1).trans h1, h2.stab s⟩
  bc := (s _ hE.g.2.1).trans hE.bc
  be := by obtain ⟨p, h1, h2⟩ := hE.be; exact ⟨p, (s _ hE.g.2.2.1).trans h1, h2.stab s⟩
  bl := by obtain ⟨p, h1, h2⟩ := hE.bl; exact ⟨p, (s _ hE.g.2.2.2.1).trans h1, h2.stab s⟩
  bu := by obtain ⟨p, h1, h2⟩ := hE.bu; exact ⟨p, (s _ hE.g.2.2.2.2.1).trans h1, h2.stab s⟩
  bp := (s _ hE.g.2.2.2.2.2).trans hE.bp
end
theorem c_Empty (χ : Chi) (h : Heap) (b o : Nat) (a : Option Addr) (n cc : Nat) (hc : cellH h b (o + 2) = some (.slice a n cc)) :
    Cl Try.prog χ 92 #[.pointer (some ⟨b, o, none⟩)] h (fun r h' => r = .bool (decide ((n : Int) = 0)) ∧ h' = h) := by
  refine cl_intro Try.func92 rfl rfl rfl ?_
  have K : Keep [] h h := Keep.refl _ _
  refine tr_seq ?_
  refine tr_reg ?_
  refine rs_v (v_assign rfl) rfl ?_
  refine rs_nil ?_
  refine q_thn ?_
  refine tr_seq ?_
  refine tr_reg ?_
  refine rs_v (v_move rfl) rfl ?_
  refine rs_v (v_peq u_p_keyspan_Span rfl rfl) rfl ?_
  refine rs_v (v_move rfl) rfl ?_
  refine rs_gv rfl (rfl) (v_move rfl) rfl ?_
  refine rs_gv rfl (rfl) (v_nilCheck_ptr rfl) rfl ?_
  refine rs_gv rfl (rfl) (v_fieldAddr fa_keyspan_Span_2 rfl) rfl ?_
  refine rs_gv rfl (rfl) (v_load one_sl_keyspan_Key rfl (by exact hc)) rfl ?_
  refine rs_gv rfl (rfl) (v_len u_sl_keyspan_Key rfl) rfl ?_
  refine rs_gv rfl (rfl) (v_eq rfl rfl) rfl ?_
  refine rs_v (v_pick_f rfl rfl) rfl ?_
  refine rs_v (v_assign rfl) rfl ?_
  refine rs_nil ?_
  refine q_thn ?_
  refine tr_ret ?_
  refine q_ret (res_tmp rfl rfl) ?_
  exact ⟨rfl, rfl⟩
end Go.Proofs.Ytgebfbnndgjkiaa
namespace Go.Proofs.Ytgebfbnndgjkiaa
open Go.Tess Go.RowKit
set_option maxRecDepth 100000
set_option maxHeartbeats 1000000
theorem Good.ne {W : List SpanD} (h : Good W) : ∀ s, s ∈ W → s.ks ≠ [] := fun s hs => (h.full s hs).2.1
end Go.Proofs.Ytgebfbnndgjkiaa
namespace Go.Proofs.Ytgebfbnndgjkiaa
open Go.Tess Go.RowKit
set_option maxRecDepth 100000
set_option maxHeartbeats 1000000
/-- An iterator that stands for a list, where only the steps that Al lets are asked for. -/
structure IterA (P : Program) (χ : Chi) (W : List SpanD) (t : TypeId) (v : Value) (I : ItI) (Al : StepD → Prop) : Prop where
  low : ∀ {p F h}, I p F h → Low F h
  stab : ∀ {p F h h'}, I p F h → Stab F h h' → h.size ≤ h'.size → I p F h'
  first : ∀ {p F h} {s : StepD}, s.op = 0 → Al s → I p F h → MCall P χ t v "First" [] h (ItPost W I F h (pFirst W))
  last : ∀ {p F h} {s : StepD}, s.op = 1 → Al s → I p F h → MCall P χ t v "Last" [] h (ItPost W I F h (pLast W))
  next : ∀ {p F h} {s : StepD}, s.op = 2 → Al s → I p F h → canNext p = true → MCall P χ t v "Next" [] h (ItPost W I F h (pNext W p))
  prev : ∀ {p F h} {s : StepD}, s.op = 3 → Al s → I p F h → canPrev p = true → MCall P χ t v "Prev" [] h (ItPost W I F h (pPrev W p))
  ge : ∀ {p F h kv} {s : StepD}, s.op = 4 → Al s → I p F h → RBytes (fun b => ¬ F b) h kv s.key → MCall P χ t v "SeekGE" [kv] h (ItPost W I F h (pGE W s.key))
  lt : ∀ {p F h kv} {s : StepD}, s.op = 5 → Al s → I p F h → RBytes (fun b => ¬ F b) h kv s.key → MCall P χ t v "SeekLT" [kv] h (ItPost W I F h (pLT W s.key))
theorem IterA.after {P : Program} {χ : Chi} {W : List SpanD} {t : TypeId} {v : Value} {I : ItI} {Al : StepD → Prop} (ok : IterA P χ W t v I Al) {p : Pos} {F : Nat → Prop} {h4 h7 h8 : Heap} {X : List Nat} (hI : I p F h4) (K : Keep [] h4 h7) (K8 : Keep X h7 h8) (hX : ∀ x, x ∈ X → ¬ F x) : I p F h8 :=
  ok.stab hI (fun b hb => (K8.2 b (Nat.lt_of_lt_of_le (ok.low hI b hb) K.1) (fun hm => hX b hm hb)).trans (K.2 b (ok.low hI b hb) (by simp))) (Nat.le_trans K.1 K8.1)

end Go.Proofs.Ytgebfbnndgjkiaa
namespace Go.Proofs.Ytgebfbnndgjkiaa
open Go.Tess Go.RowKit
set_option maxRecDepth 100000
set_option maxHeartbeats 1000000
def UpC (up : Option ByteArray) (s : SpanD) : Bool := match up with | none => true | some u => slt s.s u
def LoC (lo : Option ByteArray) (s : SpanD) : Bool := match lo with | none => true | some l => slt l s.e
/-- A bound as bytes, or nil. -/
def RBnd (G : Nat → Prop) (h : Heap) (v : Value) (b : Option ByteArray) : Prop := match b with
  | none => v = .slice none 0 0
  | some u => ∃ g o n c, v = .slice (some ⟨g, o, none⟩) n c ∧ RBytes G h v u
theorem RBnd.stab {G : Nat → Prop} {h h' : Heap} {v : Value} {b : Option ByteArray} (hr : RBnd G h v b) (s : Stab G h h') : RBnd G h' v b := by
  cases b with
  | none => exact hr
  | some u => obtain ⟨g, o, n, c, e, h1⟩ := hr; exact ⟨g, o, n, c, e, h1.stab s⟩
theorem RBnd.mono {G G' : Nat → Prop} {h : Heap} {v : Value} {b : Option ByteArray} (hr : RBnd G h v b) (s : ∀ b, G b → G' b) : RBnd G' h v b := by
  cases b with
  | none => exact hr
  | some u => obtain ⟨g, o, n, c, e, h1⟩ := hr; exact ⟨g, o, n, c, e, h1.mono s⟩
theorem RBnd.form {G : Nat → Prop} {h : Heap} {v : Value} {b : Option ByteArray} (hr : RBnd G h v b) : ∃ a n c, v = .slice a n c := by
  cases b with
  | none => exact ⟨_, _, _, hr⟩
  | some u => obtain ⟨g, o, n, c, e, _⟩ := hr; exact ⟨_, _, _, e⟩
/-- A span behind a pointer, or none. -/
def SpA (F : Nat → Prop) (h : Heap) (x : Option Addr) (os : Option SpanD) : Prop := match os with
  | none => x = none
  | some s => ∃ b o, x = some ⟨b, o, none⟩ ∧ F b ∧ PSpan F h b o s
theorem SpA.stab {F : Nat → Prop} {h h' : Heap} {x : Option Addr} {os : Option SpanD} (hr : SpA F h x os) (s : Stab F h h') : SpA F h' x os := by
  cases os with
  | none => exact hr
  | some t => obtain ⟨b, o, e, h1, h2⟩ := hr; exact ⟨b, o, e, h1, h2.stab h1 s⟩
theorem SpA.ret {W : List SpanD} {p : Pos} {F : Nat → Prop} {h : Heap} {x : Option Addr} (hr : SpA F h x (cur W p)) : Ret W p F h (.pointer x) := by
  unfold Ret
  cases hc : cur W p with
  | none => rw [hc] at hr; rw [show x = none from hr]
  | some s => rw [hc] at hr; obtain ⟨b, o, e, h1, h2⟩ := hr; subst e; exact ⟨b, o, rfl, h1, h2⟩
end Go.Proofs.Ytgebfbnndgjkiaa
namespace Go.Proofs.Ytgebfbnndgjkiaa
open Go.Tess Go.RowKit
set_option maxRecDepth 100000
set_option maxHeartbeats 1000000
/-- The spans that overlap the bounds stand together. -/
structure Seg (W : List SpanD) (lo up : Option ByteArray) (i0 i1 : Nat) : Prop where
  le : i0 ≤ i1
  len : i1 ≤ W.length
  lo : ∀ (j : Nat) s, W[j]? = some s → (LoC lo s = true ↔ i0 ≤ j)
  up : ∀ (j : Nat) s, W[j]? = some s → (UpC up s = true ↔ j < i1)
section
variable {W : List SpanD} {lo up : Option ByteArray} {i0 i1 : Nat} (hs : Seg W lo up i0 i1)
include hs
end
end Go.Proofs.Ytgebfbnndgjkiaa
namespace Go.Proofs.Ytgebfbnndgjkiaa
open Go.Tess Go.RowKit
set_option maxRecDepth 100000
set_option maxHeartbeats 1000000
theorem SpA.mono {F F' : Nat → Prop} {h : Heap} {x : Option Addr} {os : Option SpanD} (hr : SpA F h x os) (s : ∀ b, F b → F' b) : SpA F' h x os := by
  cases os with
  | none => exact hr
  | some t => obtain ⟨b, o, e, h1, h2⟩ := hr; exact ⟨b, o, e, s b h1, h2.mono s⟩
section
variable (W : List SpanD) (I : ItI) (t : TypeId) (v0 : Value) (c i0 i1 : Nat) (lo up : Option ByteArray) (lov upv spl pp : Value)
end
section
variable {W : List SpanD} {I : ItI} {t : TypeId} {v0 : Value} {c i0 i1 : Nat} {lo up : Option ByteArray} {lov upv spl pp : Value} {q : Pos} {Fin F : Nat → Prop} {h : Heap} {sp : Option Addr} {os : Option SpanD} {pos : Int}
end
section
variable {χ : Chi} {W : List SpanD} {I : ItI} {t : TypeId} {v0 : Value} {c i0 i1 : Nat} {lo up : Option ByteArray} {lov upv spl pp : Value} (hEnv : ∀ {p F h}, I p F h → RBnd F h lov lo ∧ RBnd F h upv up) (hit : IterOK Try.prog χ W t v0 I) (hO : Tess.Ord W) (hs : Seg W lo up i0 i1)
include hEnv hit hO hs
end
end Go.Proofs.Ytgebfbnndgjkiaa
namespace Go.Proofs.Ytgebfbnndgjkiaa
open Go.Tess Go.RowKit
set_option maxRecDepth 100000
set_option maxHeartbeats 1000000
/-- A block of an iterator holds no bytes. -/
theorem RBytes.ne {G : Nat → Prop} {h : Heap} {v : Value} {s : ByteArray} {c : Nat} {sv : Value} {x : Int} {T : TypeId} (hr : RBytes G h v s) (hsv : ∃ a n k, sv = .slice a n k) (B : Blk h c (itL sv x) T) : RBytes (fun b => G b ∧ b ≠ c) h v s := by
  obtain ⟨a', n', k', rfl⟩ := hsv
  obtain ⟨hl, a, k, e, hx⟩ := hr
  refine ⟨hl, a, k, e, fun i y hi => ?_⟩
  obtain ⟨b, o, e1, e2, e3⟩ := hx i y hi
  refine ⟨b, o, e1, ⟨⟨e2.1, fun hbc => ?_⟩, e2.2⟩, e3⟩
  subst hbc
  unfold cellH at e3
  have hB := B
  unfold Blk at hB
  rw [hB] at e3
  simp only [itL, cmpF] at e3
  match hj : o + i * 1, e3 with
  | 0, e3 => simp at e3
  | 1, e3 => simp at e3
  | 2, e3 => simp at e3
  | n + 3, e3 => simp at e3
theorem RBnd.ne {G : Nat → Prop} {h : Heap} {v : Value} {b : Option ByteArray} {c : Nat} {sv : Value} {x : Int} {T : TypeId} (hr : RBnd G h v b) (hsv : ∃ a n k, sv = .slice a n k) (B : Blk h c (itL sv x) T) : RBnd (fun b => G b ∧ b ≠ c) h v b := by
  cases b with
  | none => exact hr
  | some u => obtain ⟨g, o, n, k, e, h1⟩ := hr; exact ⟨g, o, n, k, e, RBytes.ne h1 hsv B⟩
def cmpL (s : ByteArray) : List Value := [cmpF, .func (.func 78) #[] #[], .func (.func 79) #[] #[], .nilFunc, .func (.func 81) #[] #[], .nilFunc, .func (.func 83) #[] #[], .func (.func 84) #[] #[], .string s]

theorem c_DefaultComparer2 (χ : Chi) (h : Heap) :
    Cl Try.prog χ 54 #[] h (fun r h' => r = .pointer (some ⟨h.size, 0, none⟩) ∧ (∃ s, Blk h' h.size (cmpL s) 119) ∧ Keep [] h h') := by
  refine cl_intro Try.func54 rfl rfl rfl ?_
  have K : Keep [] h h := Keep.refl _ _
  refine tr_seq ?_
  refine tr_reg ?_
  refine rs_v (v_assign rfl) rfl ?_
  refine rs_nil ?_
  refine q_thn ?_
  refine tr_seq ?_
  refine tr_reg ?_
  refine rs_v (v_buildN (us := [_, _, _, _, _, _, _]) ⟨rfl, rfl, rfl, rfl, rfl, rfl, rfl, trivial⟩ (bld_base_Comparer_0_1_2_4_6_7_8 _ _ _ _ _ _ _ _ _ _ _ _ _ _ _ _ _ _ _)) rfl ?_
  refine rs_w (w_newbox rfl) rfl ?_
  rintro _ h1 ⟨rfl, B1, K1, Z1⟩
  have S1 := K.1; have K := K.new0 K1
  refine rs_v (v_assign rfl) rfl ?_
  refine rs_nil ?_
  refine q_thn ?_
  refine tr_ret ?_
  refine q_ret (res_tmp rfl rfl) ?_
  exact ⟨rfl, ⟨_, B1⟩, K⟩
end Go.Proofs.Ytgebfbnndgjkiaa
namespace Go.Proofs.Ytgebfbnndgjkiaa
open Go.Tess Go.RowKit
set_option maxRecDepth 100000
set_option maxHeartbeats 1000000
theorem nb {b : Bool} (h : b = false) : (!b) = true := by rw [h]; rfl
end Go.Proofs.Ytgebfbnndgjkiaa
namespace Go.Proofs.Ytgebfbnndgjkiaa
open Go.Tess Go.RowKit
set_option maxRecDepth 100000
set_option maxHeartbeats 2000000
theorem RowsR.app {α : Type} {sz : Nat} {R : List Value → α → Prop} {xs ys : List Value} {ls ms : List α} (h : RowsR sz R xs ls) (k : RowsR sz R ys ms) : RowsR sz R (xs ++ ys) (ls ++ ms) := by
  obtain ⟨c1, rfl, l1, h1⟩ := h
  obtain ⟨c2, rfl, l2, h2⟩ := k
  refine ⟨c1 ++ c2, by simp, by simp [l1, l2], fun i c a hc ha => ?_⟩
  rcases Nat.lt_or_ge i c1.length with hlt | hge
  · rw [List.getElem?_append_left hlt] at hc
    rw [List.getElem?_append_left (by omega)] at ha
    exact h1 i c a hc ha
  · rw [List.getElem?_append_right hge] at hc
    rw [List.getElem?_append_right (by omega)] at ha
    rw [l1] at hc
    exact h2 _ c a hc ha
end Go.Proofs.Ytgebfbnndgjkiaa
namespace Go.Proofs.Ytgebfbnndgjkiaa
open Go.Tess Go.RowKit
set_option maxRecDepth 100000
set_option maxHeartbeats 2000000
theorem Good.filter {W : List SpanD} (h : Good W) (P : SpanD → Bool) (hO : Tess.Ord (W.filter P)) : Good (W.filter P) :=
  ⟨Nat.le_trans (List.length_filter_le _ _) h.len, fun s hs => h.full s (List.mem_filter.1 hs).1, fun s hs => h.small s (List.mem_filter.1 hs).1, hO⟩
end Go.Proofs.Ytgebfbnndgjkiaa
namespace Go.Proofs.Ytgebfbnndgjkiaa
open Go.Tess Go.RowKit
set_option maxRecDepth 100000
set_option maxHeartbeats 1000000
/-- The prefix mode's boxes. -/
def PreE (G : Nat → Prop) (h : Heap) (hp pp : Value) (P : ByteArray) : Prop :=
  ∃ hb pb pv, hp = .pointer (some ⟨hb, 0, none⟩) ∧ pp = .pointer (some ⟨pb, 0, none⟩) ∧ G hb ∧ G pb ∧ cellH h hb 0 = some (.bool true) ∧ cellH h pb 0 = some pv ∧ RBytes G h pv P
theorem PreE.stab {G : Nat → Prop} {h h' : Heap} {hp pp : Value} {P : ByteArray} (hr : PreE G h hp pp P) (s : Stab G h h') : PreE G h' hp pp P := by
  obtain ⟨hb, pb, pv, e1, e2, g1, g2, c1, c2, r⟩ := hr
  refine ⟨hb, pb, pv, e1, e2, g1, g2, ?_, ?_, r.stab s⟩
  · unfold cellH at *; rw [s hb g1]; exact c1
  · unfold cellH at *; rw [s pb g2]; exact c2
theorem PreE.mono {G G' : Nat → Prop} {h : Heap} {hp pp : Value} {P : ByteArray} (hr : PreE G h hp pp P) (s : ∀ b, G b → G' b) : PreE G' h hp pp P := by
  obtain ⟨hb, pb, pv, e1, e2, g1, g2, c1, c2, r⟩ := hr
  exact ⟨hb, pb, pv, e1, e2, s _ g1, s _ g2, c1, c2, r.mono s⟩
end Go.Proofs.Ytgebfbnndgjkiaa
namespace Go.Proofs.Ytgebfbnndgjkiaa
open Go.Tess Go.RowKit
set_option maxRecDepth 100000
set_option maxHeartbeats 1000000
section
variable {P : Program} {χ : Chi} {ρ : Operand → Option Value} {h : Heap} {ty : TypeId} {pos : String} {after : Array Edge} {guard : Option (Nat × Bool)} {dst : Option Tmp} {x y z : Operand} {t t2 e : TypeId}
theorem v_cap {a : Option Addr} {n c : Nat} (ht : P.underlying t = some (.slice e)) (hx : ρ x = some (.slice a n c)) :
    OpV P χ ⟨dst, .call ⟨.builtin .cap, #[x], #[t]⟩, ty, pos, after, guard⟩ ρ h (.int .i64 (c : Int)) := by
  intro r d hr
  have e1 := hr x (by simp [Op.operands, Call.operands]) _ hx
  have he := elem_of ht
  simp [execOp, resolve, invoke, builtin, e1, run_cap_slice (mkw χ h d) t ty a n c (by rw [he]; exact ht), goInt]
theorem v_mul {a b : Int} (hx : ρ x = some (.int .i64 a)) (hy : ρ y = some (.int .i64 b)) (h0 : -9223372036854775808 ≤ a * b) (h1 : a * b ≤ 9223372036854775807) :
    OpV P χ ⟨dst, .binOp .mul t x y t2, ty, pos, after, guard⟩ ρ h (.int .i64 (a * b)) :=
  v_bin hx hy fun w => by simp [eqGuard, binOp, Op.intArith, IntWalk.i64_in _ ⟨h0, h1⟩]
theorem v_slice_lhm {sz b o m c i j : Nat} {k1 k2 k3 : IntKind} {x1 x2 x3 : Operand} {j1 j2 j3 : Int} (ht : P.underlying t = some (.slice e)) (hs : Siz P e sz)
    (hx : ρ x = some (.slice (some ⟨b, o, none⟩) m c)) (h1 : ρ x1 = some (.int k1 j1)) (h2 : ρ x2 = some (.int k2 j2)) (h3 : ρ x3 = some (.int k3 j3)) (e1 : j1 = (i : Int)) (e2 : j2 = ((i + j : Nat) : Int)) (e3 : j3 = ((i + j : Nat) : Int)) (hc : i + j ≤ c) :
    OpV P χ ⟨dst, .slice t x (some x1) (some x2) (some x3), ty, pos, after, guard⟩ ρ h (.slice (some ⟨b, if j = 0 then o else o + i * sz, none⟩) j j) := by
  intro r d hr
  have f0 := hr x (by simp [Op.operands]) _ hx
  have f1 := hr x1 (by simp [Op.operands]) _ h1
  have f2 := hr x2 (by simp [Op.operands]) _ h2
  have f3 := hr x3 (by simp [Op.operands]) _ h3
  subst e1; subst e2; subst e3
  have he := elem_of ht
  have hq := run_slice_lhm (w := mkw χ h d) t (some ⟨b, o, none⟩) m c (by rw [he]; exact ht) k1 k2 k3 (i : Int) ((i + j : Nat) : Int) ((i + j : Nat) : Int) (by omega) (by omega) (by omega) (by omega)
  rw [he, hs, Result.andThen_ok] at hq
  have h9 : sliced (some ⟨b, o, none⟩) (Int.toNat (i : Int)) (Int.toNat ((i + j : Nat) : Int)) (Int.toNat ((i + j : Nat) : Int)) sz = .slice (some ⟨b, if j = 0 then o else o + i * sz, none⟩) j j := by
    simp only [sliced, Int.toNat_natCast]
    have a1 : i + j - i = j := by omega
    rw [a1]
    by_cases hj : j = 0
    · subst hj; simp
    · rw [if_neg (by omega), if_neg hj]; simp [addr_add]
  rw [h9] at hq
  rw [Int.natCast_add] at hq
  simp [execOp, f0, f1, f2, f3, run_sliceAt_slice (mkw χ h d) t _ _ _ _ (by rw [he]; exact ht), hq]
/-- make of a slice without elements, with a room. -/
theorem w_make0 {i : TypeInfo} {z0 : Value} {kl kc : IntKind} {c : Nat} {j : Int} (ht : P.underlying t = some (.slice e)) (hi : P.info? e = some i) (hz : i.zero = some z0) (h1 : z0.cells.size = 1) (hs : i.size = 1) (hx : ρ x = some (.int kl 0)) (hy : ρ y = some (.int kc j)) (hj : j = (c : Int))
    (hb : (i.bytes : Int) * c ≤ 281474976710656) (hc : c ≤ 9223372036854775807) :
    OpW P χ ⟨dst, .makeSlice t x y, ty, pos, after, guard⟩ ρ h (fun v h' => v = .slice (some ⟨h.size, 0, none⟩) 0 c ∧ (∃ cs, cs.length = c ∧ Blk h' h.size cs e) ∧ Keep [] h h') := by
  refine w_of_run fun r d hr => ?_
  have e1 := hr x (by simp [Op.operands]) _ hx
  have e2 := hr y (by simp [Op.operands]) _ hy
  subst hj
  have hrun := run_make (P := P) (mkw χ h d) t e i z0 ht hi hz kl kc 0 (c : Int) (Int.le_refl _) (by omega) hb (by omega)
  refine ⟨.slice (some ⟨h.size, 0, none⟩) 0 c, h.push (.cells (madeCells z0.cells (c * i.size)) e), d, by simp [execOp, e1, e2, hrun]; exact ⟨rfl, rfl⟩, rfl, ⟨(madeCells z0.cells (c * i.size)).toList, by simp [size_madeCells, hs], Blk.new h _ e⟩, Keep.push _ _ _⟩
/-- copy of all elements of a row into the room of a block. -/
theorem w_copyB {g o n m c1 c2 b o2 : Nat} {cur cs : List Value} {T : TypeId} (ht : P.underlying t = some (.slice e)) (hs : (P.info? e).map (·.size) = some 1) (hx : ρ x = some (.slice (some ⟨g, o, none⟩) n c1)) (hy : ρ y = some (.slice (some ⟨b, o2, none⟩) m c2))
    (hg : Blk h g cur T) (hn : cs.length = m) (hnm : m = n) (hsrc : CellsAt h b o2 cs) (hfit : o + m ≤ cur.length) (h1 : ∀ v, v ∈ cs → v.oneCell' = true) :
    OpW P χ ⟨dst, .call ⟨.builtin .copy, #[x, y], #[t, t2]⟩, ty, pos, after, guard⟩ ρ h (fun _ h' => Blk h' g (cur.take o ++ cs ++ cur.drop (o + cs.length)) T ∧ Keep [g] h h') := by
  refine w_of_run fun r d hr => ?_
  have e1 := hr x (by simp [Op.operands, Call.operands]) _ hx
  have e2 := hr y (by simp [Op.operands, Call.operands]) _ hy
  have hcl : ∀ j v, cs[j]? = some v → (mkw χ h d).cell? ((⟨b, o2, none⟩ : Addr).add j) = some v := fun j v hj => by rw [addr_add]; exact hsrc j v hj
  have hrun := run_copy_row (P := P) (mkw χ h d) t t2 ty e g o n c1 ⟨b, o2, none⟩ m c2 cur.toArray T cs ht hs hg (by rw [hn, hnm]; simp) hcl (by simpa [hn] using hfit) h1
  refine ⟨.int .i64 (cs.length : Int), ((mkw χ h d).setRow g (cur.take o ++ cs ++ cur.drop (o + cs.length)).toArray).heap, d, ?_, ?_, ?_⟩
  · simp only [List.toList_toArray] at hrun
    simp [execOp, resolve, invoke, builtin, e1, e2, hrun]
    refine ⟨rfl, ?_⟩
    rfl
  · have := setRow_heap (mkw χ h d) g cur.toArray (cur.take o ++ cs ++ cur.drop (o + cs.length)).toArray T (0, 0) hg
    exact this
  · refine ⟨by simp [World.setRow, mkw], fun k hk hx => ?_⟩
    have : k ≠ g := fun e => hx (by simp [e])
    exact setRow_other (mkw χ h d) g k _ this
theorem v_copy0 {a d0 : Option Addr} {n m c1 c2 : Nat} (ht : P.underlying t = some (.slice e)) (hs : (P.info? e).map (·.size) = some 1) (hx : ρ x = some (.slice d0 n c1)) (hy : ρ y = some (.slice a m c2)) (hm : m = 0) :
    OpV P χ ⟨dst, .call ⟨.builtin .copy, #[x, y], #[t, t2]⟩, ty, pos, after, guard⟩ ρ h (.int .i64 0) := by
  intro r d hr
  have e1 := hr x (by simp [Op.operands, Call.operands]) _ hx
  have e2 := hr y (by simp [Op.operands, Call.operands]) _ hy
  subst hm
  simp [execOp, resolve, invoke, builtin, e1, e2, run_copy_none (mkw χ h d) t t2 ty e d0 a n c1 0 c2 ht hs (by simp), goInt]
end
end Go.Proofs.Ytgebfbnndgjkiaa
namespace Go.Proofs.Ytgebfbnndgjkiaa
open Go.Tess Go.RowKit
set_option maxRecDepth 100000
set_option maxHeartbeats 1000000
/-- The part of an arena's block that no bytes have been given of yet. -/
def Free (a : Value) (b o : Nat) : Prop := ∃ n c, a = .slice (some ⟨b, 0, none⟩) n c ∧ n ≤ o
def Aren (h : Heap) (a : Value) : Prop := a = .slice none 0 0 ∨ ∃ g n c cs, a = .slice (some ⟨g, 0, none⟩) n c ∧ n ≤ c ∧ c ≤ 2147483647 ∧ cs.length = c ∧ Blk h g cs 5
/-- What giving bytes of an arena does to the heap: blocks besides X and the arena's stay whole, and all cells but the free ones. -/
structure Tn (X : List Nat) (h h' : Heap) (a a' : Value) : Prop where
  sz : h.size ≤ h'.size
  blk : ∀ b, b < h.size → b ∉ X → b ∉ a.ownBlock.toList → h'[b]? = h[b]?
  cell : ∀ b o v, b ∉ X → ¬ Free a b o → cellH h b o = some v → cellH h' b o = some v
  free : ∀ b o, Free a' b o → Free a b o ∨ h.size ≤ b
  own : ∀ x, x ∈ a'.ownBlock.toList → x ∈ a.ownBlock.toList ∨ h.size ≤ x
theorem Aren.low {h : Heap} {a : Value} (ha : Aren h a) : ∀ x, x ∈ a.ownBlock.toList → x < h.size := by
  rcases ha with rfl | ⟨g, n, c, cs, rfl, _, _, _, B⟩
  · simp [Value.ownBlock]
  · intro x hx; simp [Value.ownBlock] at hx; subst hx; exact B.lt
theorem Aren.keep {X : List Nat} {h h' : Heap} {a : Value} (ha : Aren h a) (k : Keep X h h') (hX : ∀ x, x ∈ a.ownBlock.toList → x ∉ X) : Aren h' a := by
  rcases ha with rfl | ⟨g, n, c, cs, rfl, h1, h2, h3, B⟩
  · exact .inl rfl
  · exact .inr ⟨g, n, c, cs, rfl, h1, h2, h3, k.blk (hX g (by simp [Value.ownBlock])) B⟩
theorem Aren.form {h : Heap} {a : Value} (ha : Aren h a) : ∃ x n c, a = .slice x n c ∧ n ≤ c ∧ c ≤ 2147483647 := by
  rcases ha with rfl | ⟨g, n, c, cs, rfl, h1, h2, h3, B⟩
  · exact ⟨_, _, _, rfl, by omega, by omega⟩
  · exact ⟨_, _, _, rfl, h1, h2⟩
theorem Tn.refl (X : List Nat) (h : Heap) (a : Value) : Tn X h h a a := ⟨Nat.le_refl _, fun _ _ _ _ => rfl, fun _ _ _ _ _ hc => hc, fun _ _ hf => .inl hf, fun _ hx => .inl hx⟩
theorem Tn.trans {X : List Nat} {h h1 h2 : Heap} {a a1 a2 : Value} (s : Tn X h h1 a a1) (t : Tn X h1 h2 a1 a2) : Tn X h h2 a a2 := by
  have hz := s.sz
  refine ⟨Nat.le_trans s.sz t.sz, fun b hb hX ho => ?_, fun b o v hX hf hc => ?_, fun b o hf => ?_, fun x hx => ?_⟩
  · refine (t.blk b (by omega) hX fun hm => ?_).trans (s.blk b hb hX ho)
    rcases s.own b hm with h1 | h1
    · exact ho h1
    · omega
  · refine t.cell b o v hX (fun hm => ?_) (s.cell b o v hX hf hc)
    rcases s.free b o hm with h1 | h1
    · exact hf h1
    · have := cellH_lt hc; omega
  · rcases t.free b o hf with h1 | h1
    · exact s.free b o h1
    · exact .inr (by omega)
  · rcases t.own x hx with h1 | h1
    · exact s.own x h1
    · exact .inr (by omega)
theorem Tn.keep {X : List Nat} {h h' : Heap} {a a' : Value} (s : Tn X h h' a a') : Keep (X ++ a.ownBlock.toList) h h' :=
  ⟨s.sz, fun b hb hm => s.blk b hb (fun h1 => hm (List.mem_append_left _ h1)) (fun h1 => hm (List.mem_append_right _ h1))⟩
theorem Tn.more {X Y : List Nat} {h h' : Heap} {a a' : Value} (s : Tn X h h' a a') (hs : ∀ x, x ∈ X → x ∈ Y) : Tn Y h h' a a' :=
  ⟨s.sz, fun b hb hm ho => s.blk b hb (fun h1 => hm (hs b h1)) ho, fun b o v hm hf hc => s.cell b o v (fun h1 => hm (hs b h1)) hf hc, s.free, s.own⟩
/-- A step that turns only blocks of X, and not the arena. -/
theorem Tn.put {X : List Nat} {h h1 h2 : Heap} {a a1 : Value} (s : Tn X h h1 a a1) (k : Keep X h1 h2) : Tn X h h2 a a1 := by
  have hz := s.sz; have hz2 := k.1
  exact ⟨by omega, fun b hb hX ho => (k.2 b (by omega) hX).trans (s.blk b hb hX ho), fun b o v hX hf hc => k.cell hX (s.cell b o v hX hf hc), s.free, s.own⟩
/-- Bytes that an arena gave. -/
def SBy (G : Nat → Prop) (a : Value) (h : Heap) (v : Value) (s : ByteArray) : Prop :=
  SlR h (fun b => G b ∧ CapV v) 1 (fun h b o (c : UInt8) => cellH h b o = some (.int .u8 (c.toNat : Int)) ∧ ¬ Free a b o) v s.data.toList
theorem SlR.to {α : Type} {h h' : Heap} {A A' : Nat → Prop} {sz : Nat} {R R' : Heap → Nat → Nat → α → Prop} {v : Value} {xs : List α} (hr : SlR h A sz R v xs)
    (hA : ∀ b, A b → A' b) (hR : ∀ b o x, A b → R h b o x → R' h' b o x) : SlR h' A' sz R' v xs := by
  obtain ⟨hl, a, c, e, hx⟩ := hr
  exact ⟨hl, a, c, e, fun i x hi => by obtain ⟨b, o, e1, e2, e3⟩ := hx i x hi; exact ⟨b, o, e1, hA b e2, hR b _ x e2 e3⟩⟩
theorem SBy.step {X : List Nat} {G G' : Nat → Prop} {a a' v : Value} {h h' : Heap} {s : ByteArray} (hs : SBy G a h v s) (t : Tn X h h' a a') (hX : ∀ b, G b → b ∉ X) (hG : ∀ b, G b → G' b) : SBy G' a' h' v s :=
  SlR.to hs (fun b hb => ⟨hG b hb.1, hb.2⟩) fun b o x hb hc => ⟨t.cell b o _ (hX b hb.1) hc.2 hc.1, fun hf => by
    rcases t.free b o hf with h1 | h1
    · exact hc.2 h1
    · have := cellH_lt hc.1; omega⟩
theorem SBy.bytes {G : Nat → Prop} {a v : Value} {h : Heap} {s : ByteArray} (hs : SBy G a h v s) : RBytes G h v s := SlR.to hs (fun _ hb => hb) fun _ _ _ _ hc => hc.1
theorem SBy.nil (G : Nat → Prop) (a : Value) (h : Heap) (x : Option Addr) (c : Nat) {s : ByteArray} (hs : s.data.toList = []) : SBy G a h (.slice x 0 c) s := by
  unfold SBy; rw [hs]; exact ⟨by simp, x, c, rfl, fun i y hi => by simp at hi⟩
theorem RBytes.cellsAt {A : Nat → Prop} {h : Heap} {v : Value} {s : ByteArray} (hr : RBytes A h v s) : ∃ x c, v = .slice x s.data.toList.length c ∧ (s.data.toList = [] ∨ ∃ b o, x = some ⟨b, o, none⟩ ∧ A b ∧ CellsAt h b o (byteCells s.data.toList)) := by
  obtain ⟨_, x, c, e, hx⟩ := SlR.form hr
  refine ⟨x, c, e, ?_⟩
  rcases hx with h1 | ⟨b, o, h1, h2, h3⟩
  · exact .inl h1
  · refine .inr ⟨b, o, h1, h2.1, fun j v hj => ?_⟩
    simp only [byteCells, List.getElem?_map] at hj
    cases hq : s.data.toList[j]? with
    | none => rw [hq] at hj; simp at hj
    | some y =>
      rw [hq] at hj; simp only [Option.map_some, Option.some.injEq] at hj; subst hj
      have := h3 j y hq
      rwa [Nat.mul_one] at this
theorem info_u8 : ∃ i, Try.prog.info? 5 = some i ∧ i.zero = some (.int .u8 0) ∧ i.size = 1 ∧ i.bytes = 1 := by
  have h0 := info_uint8
  cases hq : Try.prog.info? 5 with
  | none => rw [hq] at h0; simp at h0
  | some i =>
    rw [hq] at h0
    simp only [Option.map_some, Option.some.injEq, Prod.mk.injEq] at h0
    exact ⟨i, rfl, h0⟩
section
variable {P : Program} {χ : Chi} {ρ : Operand → Option Value} {h : Heap} {ty : TypeId} {pos : String} {after : Array Edge} {guard : Option (Nat × Bool)} {dst : Option Tmp} {x y z : Operand} {t t2 e : TypeId}
theorem v_slice_lhm0 {sz : Nat} {a : Option Addr} {m c : Nat} {k1 k2 k3 : IntKind} {x1 x2 x3 : Operand} {j1 j2 j3 : Int} (ht : P.underlying t = some (.slice e)) (hs : Siz P e sz)
    (hx : ρ x = some (.slice a m c)) (h1 : ρ x1 = some (.int k1 j1)) (h2 : ρ x2 = some (.int k2 j2)) (h3 : ρ x3 = some (.int k3 j3)) (e1 : j1 = 0) (e2 : j2 = 0) (e3 : j3 = 0) :
    OpV P χ ⟨dst, .slice t x (some x1) (some x2) (some x3), ty, pos, after, guard⟩ ρ h (.slice a 0 0) := by
  intro r d hr
  have f0 := hr x (by simp [Op.operands]) _ hx
  have f1 := hr x1 (by simp [Op.operands]) _ h1
  have f2 := hr x2 (by simp [Op.operands]) _ h2
  have f3 := hr x3 (by simp [Op.operands]) _ h3
  subst e1; subst e2; subst e3
  have he := elem_of ht
  have hq := run_slice_lhm (w := mkw χ h d) t a m c (by rw [he]; exact ht) k1 k2 k3 0 0 0 (by omega) (by omega) (by omega) (by omega)
  rw [he, hs, Result.andThen_ok] at hq
  have h9 : sliced a (Int.toNat 0) (Int.toNat 0) (Int.toNat 0) sz = .slice a 0 0 := by simp [sliced]
  rw [h9] at hq
  simp [execOp, f0, f1, f2, f3, run_sliceAt_slice (mkw χ h d) t _ _ _ _ (by rw [he]; exact ht), hq]
/-- copy of bytes into what an arena gave for them. -/
def Copied (d0 : Option Addr) (cs : List Value) (h h' : Heap) : Prop :=
  (cs = [] ∧ h' = h) ∨ ∃ g p cur T, d0 = some ⟨g, p, none⟩ ∧ Blk h g cur T ∧ p + cs.length ≤ cur.length ∧ Blk h' g (cur.take p ++ cs ++ cur.drop (p + cs.length)) T ∧ Keep [g] h h'
theorem w_copyS {d0 a0 : Option Addr} {m c1 c2 : Nat} {cs : List Value} (ht : P.underlying t = some (.slice e)) (hs : (P.info? e).map (·.size) = some 1) (hx : ρ x = some (.slice d0 m c1)) (hy : ρ y = some (.slice a0 m c2)) (hn : cs.length = m)
    (hsrc : cs = [] ∨ ∃ b o2, a0 = some ⟨b, o2, none⟩ ∧ CellsAt h b o2 cs) (hd : cs = [] ∨ ∃ g p cur T, d0 = some ⟨g, p, none⟩ ∧ Blk h g cur T ∧ p + m ≤ cur.length) (h1 : ∀ v, v ∈ cs → v.oneCell' = true) :
    OpW P χ ⟨dst, .call ⟨.builtin .copy, #[x, y], #[t, t2]⟩, ty, pos, after, guard⟩ ρ h (fun _ h' => Copied d0 cs h h') := by
  by_cases h0 : cs = []
  · subst h0
    exact (v_copy0 ht hs hx hy (by simpa using hn.symm)).w.mono fun _ _ ⟨_, e2⟩ => .inl ⟨rfl, e2⟩
  · rcases hsrc with e1 | ⟨b, o2, rfl, hsrc⟩
    · exact absurd e1 h0
    rcases hd with e1 | ⟨g, p, cur, T, rfl, B, hfit⟩
    · exact absurd e1 h0
    exact (w_copyB ht hs hx hy B hn rfl hsrc hfit h1).mono fun _ _ ⟨e1, e2⟩ => .inr ⟨g, p, cur, T, rfl, B, by omega, e1, e2⟩
end
theorem bc_one {l : List UInt8} : ∀ v, v ∈ byteCells l → v.oneCell' = true := fun v hv => by
  simp only [byteCells, List.mem_map] at hv
  obtain ⟨c, _, rfl⟩ := hv
  rfl
def rsz0 (c : Nat) : Nat := if c * 2 < 512 then 512 else if 524288 < c * 2 then 524288 else c * 2
def rsz (c m : Nat) : Nat := if rsz0 c < m then m else rsz0 c
theorem rsz_ge (c m : Nat) : m ≤ rsz c m := by unfold rsz; split <;> omega
theorem rsz_le {c m : Nat} (hm : m ≤ 2147483647) : rsz c m ≤ 2147483647 := by unfold rsz rsz0; (repeat' split) <;> omega
/-- What Alloc gives. -/
def AllocH (a : Value) (m : Nat) (h : Heap) (a' : Value) (d0 : Option Addr) (h' : Heap) : Prop :=
  Keep [] h h' ∧ ((a' = .slice none 0 0 ∧ d0 = none ∧ a = .slice none 0 0 ∧ m = 0) ∨
    ∃ g p k cs, a' = .slice (some ⟨g, 0, none⟩) (p + m) k ∧ d0 = some ⟨g, if m = 0 then 0 else 0 + p * 1, none⟩ ∧ p + m ≤ k ∧ k ≤ 2147483647 ∧ cs.length = k ∧ Blk h' g cs 5 ∧ (a = .slice (some ⟨g, 0, none⟩) p k ∨ (g = h.size ∧ p = 0)))

theorem c_reserve (χ : Chi) (h : Heap) (a : Option Addr) (n c m : Nat) (hc : c ≤ 2147483647) (hm : m ≤ 2147483647) :
    Cl Try.prog χ 156 #[.slice a n c, .int .i64 (m : Int)] h (fun r h' => r = .slice (some ⟨h.size, 0, none⟩) 0 (rsz c m) ∧ ∃ cs, cs.length = rsz c m ∧ Blk h' h.size cs 5 ∧ Keep [] h h') := by
  obtain ⟨i, hi, hz, hsz, hby⟩ := info_u8
  refine cl_intro Try.func156 rfl rfl rfl ?_
  have K : Keep [] h h := Keep.refl _ _
  refine tr_seq ?_
  refine tr_reg ?_
  refine rs_v (v_assign rfl) rfl ?_
  refine rs_nil ?_
  refine q_thn ?_
  refine tr_seq ?_
  refine tr_reg ?_
  refine rs_v (v_move rfl) rfl ?_
  refine rs_v (v_cap u_bytealloc_A rfl) rfl ?_
  refine rs_v (v_mul rfl rfl (by omega) (by omega)) rfl ?_
  refine rs_v (v_assign rfl) rfl ?_
  refine rs_nil ?_
  refine q_thn ?_
  refine tr_seq ?_
  refine tr_seq ?_
  refine tr_reg ?_
  refine rs_v (v_move rfl) rfl ?_
  refine rs_v (v_lt rfl rfl) rfl ?_
  refine rs_nil ?_
  refine q_thn ?_
  refine tr_if rfl (fun hif => ?_) (fun hif => ?_)
  · -- yes
    simp only [decide_eq_true_eq, decide_eq_false_iff_not] at hif
    refine tr_reg ?_
    refine rs_v (v_assign rfl) rfl ?_
    refine rs_nil ?_
    refine q_thn ?_
    refine tr_seq ?_
    refine tr_seq ?_
    refine tr_reg ?_
    refine rs_v (v_move rfl) rfl ?_
    refine rs_v (v_move rfl) rfl ?_
    refine rs_v (v_lt rfl rfl) rfl ?_
    refine rs_nil ?_
    refine q_thn ?_
    refine tr_if rfl (fun hif => ?_) (fun hif => ?_)
    · -- yes
      simp only [decide_eq_true_eq, decide_eq_false_iff_not] at hif
      refine tr_reg ?_
      refine rs_v (v_move rfl) rfl ?_
      refine rs_v (v_assign rfl) rfl ?_
      refine rs_nil ?_
      refine q_thn ?_
      refine tr_seq ?_
      refine tr_reg ?_
      refine rs_v (v_move rfl) rfl ?_
      refine rs_w (w_make0 (c := m) u_sl_uint8 hi hz rfl hsz rfl rfl rfl (by rw [hby]; omega) (by omega)) rfl ?_
      rintro _ h1 ⟨rfl, ⟨cs1, hcs1, B1⟩, K1⟩
      have K := K.new0 K1; have Z1 := K1.1
      refine rs_v (v_assign rfl) rfl ?_
      refine rs_nil ?_
      refine q_thn ?_
      refine tr_ret ?_
      refine q_ret (res_tmp rfl rfl) ?_
      have hk : rsz c m = m := by unfold rsz rsz0; (repeat' split) <;> omega
      rw [hk]
      exact ⟨rfl, cs1, hcs1, B1, K⟩
    -- no
    simp only [decide_eq_true_eq, decide_eq_false_iff_not] at hif
    refine tr_skip ?_
    refine q_thn ?_
    refine tr_seq ?_
    refine tr_reg ?_
    refine rs_v (v_move rfl) rfl ?_
    refine rs_w (w_make0 (c := 512) u_sl_uint8 hi hz rfl hsz rfl rfl rfl (by rw [hby]; omega) (by omega)) rfl ?_
    rintro _ h2 ⟨rfl, ⟨cs2, hcs2, B2⟩, K2⟩
    have K := K.new0 K2; have Z2 := K2.1
    refine rs_v (v_assign rfl) rfl ?_
    refine rs_nil ?_
    refine q_thn ?_
    refine tr_ret ?_
    refine q_ret (res_tmp rfl rfl) ?_
    have hk : rsz c m = 512 := by unfold rsz rsz0; (repeat' split) <;> omega
    rw [hk]
    exact ⟨rfl, cs2, hcs2, B2, K⟩
  -- no
  simp only [decide_eq_true_eq, decide_eq_false_iff_not] at hif
  refine tr_seq ?_
  refine tr_reg ?_
  refine rs_v (v_move rfl) rfl ?_
  refine rs_v (v_gt rfl rfl) rfl ?_
  refine rs_nil ?_
  refine q_thn ?_
  refine tr_if rfl (fun hif => ?_) (fun hif => ?_)
  · -- yes
    simp only [decide_eq_true_eq, decide_eq_false_iff_not] at hif
    refine tr_reg ?_
    refine rs_v (v_assign rfl) rfl ?_
    refine rs_nil ?_
    refine q_thn ?_
    refine tr_seq ?_
    refine tr_seq ?_
    refine tr_reg ?_
    refine rs_v (v_move rfl) rfl ?_
    refine rs_v (v_move rfl) rfl ?_
    refine rs_v (v_lt rfl rfl) rfl ?_
    refine rs_nil ?_
    refine q_thn ?_
    refine tr_if rfl (fun hif => ?_) (fun hif => ?_)
    · -- yes
      simp only [decide_eq_true_eq, decide_eq_false_iff_not] at hif
      refine tr_reg ?_
      refine rs_v (v_move rfl) rfl ?_
      refine rs_v (v_assign rfl) rfl ?_
      refine rs_nil ?_
      refine q_thn ?_
      refine tr_seq ?_
      refine tr_reg ?_
      refine rs_v (v_move rfl) rfl ?_
      refine rs_w (w_make0 (c := m) u_sl_uint8 hi hz rfl hsz rfl rfl rfl (by rw [hby]; omega) (by omega)) rfl ?_
      rintro _ h3 ⟨rfl, ⟨cs3, hcs3, B3⟩, K3⟩
      have K := K.new0 K3; have Z3 := K3.1
      refine rs_v (v_assign rfl) rfl ?_
      refine rs_nil ?_
      refine q_thn ?_
      refine tr_ret ?_
      refine q_ret (res_tmp rfl rfl) ?_
      have hk : rsz c m = m := by unfold rsz rsz0; (repeat' split) <;> omega
      rw [hk]
      exact ⟨rfl, cs3, hcs3, B3, K⟩
    -- no
    simp only [decide_eq_true_eq, decide_eq_false_iff_not] at hif
    refine tr_skip ?_
    refine q_thn ?_
    refine tr_seq ?_
    refine tr_reg ?_
    refine rs_v (v_move rfl) rfl ?_
    refine rs_w (w_make0 (c := 524288) u_sl_uint8 hi hz rfl hsz rfl rfl rfl (by rw [hby]; omega) (by omega)) rfl ?_
    rintro _ h4 ⟨rfl, ⟨cs4, hcs4, B4⟩, K4⟩
    have K := K.new0 K4; have Z4 := K4.1
    refine rs_v (v_assign rfl) rfl ?_
    refine rs_nil ?_
    refine q_thn ?_
    refine tr_ret ?_
    refine q_ret (res_tmp rfl rfl) ?_
    have hk : rsz c m = 524288 := by unfold rsz rsz0; (repeat' split) <;> omega
    rw [hk]
    exact ⟨rfl, cs4, hcs4, B4, K⟩
  -- no
  simp only [decide_eq_true_eq, decide_eq_false_iff_not] at hif
  refine tr_skip ?_
  refine q_thn ?_
  refine tr_seq ?_
  refine tr_seq ?_
  refine tr_reg ?_
  refine rs_v (v_move rfl) rfl ?_
  refine rs_v (v_move rfl) rfl ?_
  refine rs_v (v_lt rfl rfl) rfl ?_
  refine rs_nil ?_
  refine q_thn ?_
  refine tr_if rfl (fun hif => ?_) (fun hif => ?_)
  · -- yes
    simp only [decide_eq_true_eq, decide_eq_false_iff_not] at hif
    refine tr_reg ?_
    refine rs_v (v_move rfl) rfl ?_
    refine rs_v (v_assign rfl) rfl ?_
    refine rs_nil ?_
    refine q_thn ?_
    refine tr_seq ?_
    refine tr_reg ?_
    refine rs_v (v_move rfl) rfl ?_
    refine rs_w (w_make0 (c := m) u_sl_uint8 hi hz rfl hsz rfl rfl rfl (by rw [hby]; omega) (by omega)) rfl ?_
    rintro _ h5 ⟨rfl, ⟨cs5, hcs5, B5⟩, K5⟩
    have K := K.new0 K5; have Z5 := K5.1
    refine rs_v (v_assign rfl) rfl ?_
    refine rs_nil ?_
    refine q_thn ?_
    refine tr_ret ?_
    refine q_ret (res_tmp rfl rfl) ?_
    have hk : rsz c m = m := by unfold rsz rsz0; (repeat' split) <;> omega
    rw [hk]
    exact ⟨rfl, cs5, hcs5, B5, K⟩
  -- no
  simp only [decide_eq_true_eq, decide_eq_false_iff_not] at hif
  refine tr_skip ?_
  refine q_thn ?_
  refine tr_seq ?_
  refine tr_reg ?_
  refine rs_v (v_move rfl) rfl ?_
  refine rs_w (w_make0 (c := c * 2) u_sl_uint8 hi hz rfl hsz rfl rfl (by omega) (by rw [hby]; omega) (by omega)) rfl ?_
  rintro _ h6 ⟨rfl, ⟨cs6, hcs6, B6⟩, K6⟩
  have K := K.new0 K6; have Z6 := K6.1
  refine rs_v (v_assign rfl) rfl ?_
  refine rs_nil ?_
  refine q_thn ?_
  refine tr_ret ?_
  refine q_ret (res_tmp rfl rfl) ?_
  have hk : rsz c m = c * 2 := by unfold rsz rsz0; (repeat' split) <;> omega
  rw [hk]
  exact ⟨rfl, cs6, hcs6, B6, K⟩
theorem c_Alloc1 (χ : Chi) (h : Heap)  (m : Nat) (hm : m ≤ 2147483647) (h0 : 0 < m) :
    Cl Try.prog χ 155 #[.slice none 0 0, .int .i64 (m : Int)] h (fun r h' => r = .tuple #[.slice (some ⟨h.size, 0, none⟩) (0 + m) (rsz 0 m), .slice (some ⟨h.size, if m = 0 then 0 else 0 + 0 * 1, none⟩) m m] ∧ AllocH (.slice none 0 0) m h (.slice (some ⟨h.size, 0, none⟩) (0 + m) (rsz 0 m)) ((some ⟨h.size, if m = 0 then 0 else 0 + 0 * 1, none⟩)) h') := by
  refine cl_intro Try.func155 rfl rfl rfl ?_
  have K : Keep [] h h := Keep.refl _ _
  refine tr_seq ?_
  refine tr_reg ?_
  refine rs_v (v_assign rfl) rfl ?_
  refine rs_v (v_assign rfl) rfl ?_
  refine rs_nil ?_
  refine q_thn ?_
  refine tr_seq ?_
  refine tr_seq ?_
  refine tr_reg ?_
  refine rs_v (v_move rfl) rfl ?_
  refine rs_v (v_cap u_bytealloc_A rfl) rfl ?_
  refine rs_v (v_move rfl) rfl ?_
  refine rs_v (v_len u_bytealloc_A rfl) rfl ?_
  refine rs_v (v_sub rfl rfl (by omega) (by omega)) rfl ?_
  refine rs_v (v_move rfl) rfl ?_
  refine rs_v (v_lt rfl rfl) rfl ?_
  refine rs_nil ?_
  refine q_thn ?_
  refine tr_if_t (congrArg some (congrArg Value.bool (decide_eq_true (by omega)))) ?_
  refine tr_reg ?_
  refine rs_v (v_move rfl) rfl ?_
  refine rs_v (v_move rfl) rfl ?_
  refine rs_w (w_call (vs := [_, _]) ok_bytealloc_A_reserve rfl ⟨rfl, rfl, trivial⟩ (c_reserve χ _ _ _ 0 m (by omega) hm)) rfl ?_
  rintro _ h1 ⟨rfl, cs9, hcs9, B9, K1⟩
  have K := K.new0 K1; have Z1 := K1.1
  refine rs_v (v_assign rfl) rfl ?_
  refine rs_nil ?_
  refine q_thn ?_
  refine tr_seq ?_
  refine tr_reg ?_
  refine rs_v (v_move rfl) rfl ?_
  refine rs_v (v_len u_bytealloc_A rfl) rfl ?_
  refine rs_v (v_assign rfl) rfl ?_
  refine rs_nil ?_
  refine q_thn ?_
  refine tr_seq ?_
  refine tr_reg ?_
  refine rs_v (v_move rfl) rfl ?_
  refine rs_v (v_move rfl) rfl ?_
  refine rs_v (v_move rfl) rfl ?_
  refine rs_v (v_move rfl) rfl ?_
  refine rs_v (v_add rfl rfl (by omega) (by omega)) rfl ?_
  refine rs_v (v_move rfl) rfl ?_
  refine rs_v (v_move rfl) rfl ?_
  refine rs_v (v_add rfl rfl (by omega) (by omega)) rfl ?_
  refine rs_v (v_slice_lhm (i := 0) (j := m) u_bytealloc_A siz_uint8 rfl rfl rfl rfl rfl (by omega) (by omega) (by have := rsz_ge 0 m; omega)) rfl ?_
  refine rs_v (v_assign rfl) rfl ?_
  refine rs_nil ?_
  refine q_thn ?_
  refine tr_seq ?_
  refine tr_reg ?_
  refine rs_v (v_move rfl) rfl ?_
  refine rs_v (v_move rfl) rfl ?_
  refine rs_v (v_move rfl) rfl ?_
  refine rs_v (v_add rfl rfl (by omega) (by omega)) rfl ?_
  refine rs_v (v_slice_h (i := 0 + m) u_bytealloc_A siz_uint8 rfl rfl (by omega) (by have := rsz_ge 0 m; omega)) rfl ?_
  refine rs_v (v_assign rfl) rfl ?_
  refine rs_nil ?_
  refine q_thn ?_
  refine tr_seq ?_
  refine tr_reg ?_
  refine rs_v (v_move rfl) rfl ?_
  refine rs_v (v_move rfl) rfl ?_
  refine rs_v (v_assign rfl) rfl ?_
  refine rs_v (v_assign rfl) rfl ?_
  refine rs_nil ?_
  refine q_thn ?_
  refine tr_ret ?_
  refine q_ret (res_tmp2 rfl rfl rfl) ?_
  exact ⟨rfl, K, .inr ⟨_, 0, _, cs9, rfl, by rfl, by have := rsz_ge 0 m; omega, rsz_le hm, hcs9, B9, .inr ⟨rfl, rfl⟩⟩⟩
theorem c_Alloc2 (χ : Chi) (h : Heap)  (m : Nat) (hm : m ≤ 2147483647) (h0 : m = 0) :
    Cl Try.prog χ 155 #[.slice none 0 0, .int .i64 (m : Int)] h (fun r h' => r = .tuple #[.slice none 0 0, .slice none m m] ∧ AllocH (.slice none 0 0) m h (.slice none 0 0) (none) h') := by
  refine cl_intro Try.func155 rfl rfl rfl ?_
  have K : Keep [] h h := Keep.refl _ _
  refine tr_seq ?_
  refine tr_reg ?_
  refine rs_v (v_assign rfl) rfl ?_
  refine rs_v (v_assign rfl) rfl ?_
  refine rs_nil ?_
  refine q_thn ?_
  refine tr_seq ?_
  refine tr_seq ?_
  refine tr_reg ?_
  refine rs_v (v_move rfl) rfl ?_
  refine rs_v (v_cap u_bytealloc_A rfl) rfl ?_
  refine rs_v (v_move rfl) rfl ?_
  refine rs_v (v_len u_bytealloc_A rfl) rfl ?_
  refine rs_v (v_sub rfl rfl (by omega) (by omega)) rfl ?_
  refine rs_v (v_move rfl) rfl ?_
  refine rs_v (v_lt rfl rfl) rfl ?_
  refine rs_nil ?_
  refine q_thn ?_
  refine tr_if_f (congrArg some (congrArg Value.bool (decide_eq_false (by omega)))) ?_
  refine tr_skip ?_
  refine q_thn ?_
  refine tr_seq ?_
  refine tr_reg ?_
  refine rs_v (v_move rfl) rfl ?_
  refine rs_v (v_len u_bytealloc_A rfl) rfl ?_
  refine rs_v (v_assign rfl) rfl ?_
  refine rs_nil ?_
  refine q_thn ?_
  refine tr_seq ?_
  refine tr_reg ?_
  refine rs_v (v_move rfl) rfl ?_
  refine rs_v (v_move rfl) rfl ?_
  refine rs_v (v_move rfl) rfl ?_
  refine rs_v (v_move rfl) rfl ?_
  refine rs_v (v_add rfl rfl (by omega) (by omega)) rfl ?_
  refine rs_v (v_move rfl) rfl ?_
  refine rs_v (v_move rfl) rfl ?_
  refine rs_v (v_add rfl rfl (by omega) (by omega)) rfl ?_
  refine rs_v (v_slice_lhm0 u_bytealloc_A siz_uint8 rfl rfl rfl rfl rfl (by omega) (by omega)) rfl ?_
  refine rs_v (v_assign rfl) rfl ?_
  refine rs_nil ?_
  refine q_thn ?_
  refine tr_seq ?_
  refine tr_reg ?_
  refine rs_v (v_move rfl) rfl ?_
  refine rs_v (v_move rfl) rfl ?_
  refine rs_v (v_move rfl) rfl ?_
  refine rs_v (v_add rfl rfl (by omega) (by omega)) rfl ?_
  refine rs_v (v_slice_h (i := 0) u_bytealloc_A siz_uint8 rfl rfl (by omega) (by omega)) rfl ?_
  refine rs_v (v_assign rfl) rfl ?_
  refine rs_nil ?_
  refine q_thn ?_
  refine tr_seq ?_
  refine tr_reg ?_
  refine rs_v (v_move rfl) rfl ?_
  refine rs_v (v_move rfl) rfl ?_
  refine rs_v (v_assign rfl) rfl ?_
  refine rs_v (v_assign rfl) rfl ?_
  refine rs_nil ?_
  refine q_thn ?_
  refine tr_ret ?_
  refine q_ret (res_tmp2 rfl rfl rfl) ?_
  subst h0
  exact ⟨rfl, K, .inl ⟨rfl, rfl, rfl, rfl⟩⟩
theorem c_Alloc3 (χ : Chi) (h : Heap) (g p c : Nat) (cs : List Value) (hpc : p ≤ c) (hc : c ≤ 2147483647) (hcs : cs.length = c) (B : Blk h g cs 5) (m : Nat) (hm : m ≤ 2147483647) (h0 : c < p + m) :
    Cl Try.prog χ 155 #[.slice (some ⟨g, 0, none⟩) p c, .int .i64 (m : Int)] h (fun r h' => r = .tuple #[.slice (some ⟨h.size, 0, none⟩) (0 + m) (rsz c m), .slice (some ⟨h.size, if m = 0 then 0 else 0 + 0 * 1, none⟩) m m] ∧ AllocH (.slice (some ⟨g, 0, none⟩) p c) m h (.slice (some ⟨h.size, 0, none⟩) (0 + m) (rsz c m)) ((some ⟨h.size, if m = 0 then 0 else 0 + 0 * 1, none⟩)) h') := by
  refine cl_intro Try.func155 rfl rfl rfl ?_
  have K : Keep [] h h := Keep.refl _ _
  refine tr_seq ?_
  refine tr_reg ?_
  refine rs_v (v_assign rfl) rfl ?_
  refine rs_v (v_assign rfl) rfl ?_
  refine rs_nil ?_
  refine q_thn ?_
  refine tr_seq ?_
  refine tr_seq ?_
  refine tr_reg ?_
  refine rs_v (v_move rfl) rfl ?_
  refine rs_v (v_cap u_bytealloc_A rfl) rfl ?_
  refine rs_v (v_move rfl) rfl ?_
  refine rs_v (v_len u_bytealloc_A rfl) rfl ?_
  refine rs_v (v_sub rfl rfl (by omega) (by omega)) rfl ?_
  refine rs_v (v_move rfl) rfl ?_
  refine rs_v (v_lt rfl rfl) rfl ?_
  refine rs_nil ?_
  refine q_thn ?_
  refine tr_if_t (congrArg some (congrArg Value.bool (decide_eq_true (by omega)))) ?_
  refine tr_reg ?_
  refine rs_v (v_move rfl) rfl ?_
  refine rs_v (v_move rfl) rfl ?_
  refine rs_w (w_call (vs := [_, _]) ok_bytealloc_A_reserve rfl ⟨rfl, rfl, trivial⟩ (c_reserve χ _ _ _ c m (by omega) hm)) rfl ?_
  rintro _ h1 ⟨rfl, cs9, hcs9, B9, K1⟩
  have K := K.new0 K1; have Z1 := K1.1
  refine rs_v (v_assign rfl) rfl ?_
  refine rs_nil ?_
  refine q_thn ?_
  refine tr_seq ?_
  refine tr_reg ?_
  refine rs_v (v_move rfl) rfl ?_
  refine rs_v (v_len u_bytealloc_A rfl) rfl ?_
  refine rs_v (v_assign rfl) rfl ?_
  refine rs_nil ?_
  refine q_thn ?_
  refine tr_seq ?_
  refine tr_reg ?_
  refine rs_v (v_move rfl) rfl ?_
  refine rs_v (v_move rfl) rfl ?_
  refine rs_v (v_move rfl) rfl ?_
  refine rs_v (v_move rfl) rfl ?_
  refine rs_v (v_add rfl rfl (by omega) (by omega)) rfl ?_
  refine rs_v (v_move rfl) rfl ?_
  refine rs_v (v_move rfl) rfl ?_
  refine rs_v (v_add rfl rfl (by omega) (by omega)) rfl ?_
  refine rs_v (v_slice_lhm (i := 0) (j := m) u_bytealloc_A siz_uint8 rfl rfl rfl rfl rfl (by omega) (by omega) (by have := rsz_ge c m; omega)) rfl ?_
  refine rs_v (v_assign rfl) rfl ?_
  refine rs_nil ?_
  refine q_thn ?_
  refine tr_seq ?_
  refine tr_reg ?_
  refine rs_v (v_move rfl) rfl ?_
  refine rs_v (v_move rfl) rfl ?_
  refine rs_v (v_move rfl) rfl ?_
  refine rs_v (v_add rfl rfl (by omega) (by omega)) rfl ?_
  refine rs_v (v_slice_h (i := 0 + m) u_bytealloc_A siz_uint8 rfl rfl (by omega) (by have := rsz_ge c m; omega)) rfl ?_
  refine rs_v (v_assign rfl) rfl ?_
  refine rs_nil ?_
  refine q_thn ?_
  refine tr_seq ?_
  refine tr_reg ?_
  refine rs_v (v_move rfl) rfl ?_
  refine rs_v (v_move rfl) rfl ?_
  refine rs_v (v_assign rfl) rfl ?_
  refine rs_v (v_assign rfl) rfl ?_
  refine rs_nil ?_
  refine q_thn ?_
  refine tr_ret ?_
  refine q_ret (res_tmp2 rfl rfl rfl) ?_
  exact ⟨rfl, K, .inr ⟨_, 0, _, cs9, rfl, by rfl, by have := rsz_ge c m; omega, rsz_le hm, hcs9, B9, .inr ⟨rfl, rfl⟩⟩⟩
theorem c_Alloc4 (χ : Chi) (h : Heap) (g p c : Nat) (cs : List Value) (hpc : p ≤ c) (hc : c ≤ 2147483647) (hcs : cs.length = c) (B : Blk h g cs 5) (m : Nat) (hm : m ≤ 2147483647) (h0 : p + m ≤ c) :
    Cl Try.prog χ 155 #[.slice (some ⟨g, 0, none⟩) p c, .int .i64 (m : Int)] h (fun r h' => r = .tuple #[.slice (some ⟨g, 0, none⟩) (p + m) c, .slice (some ⟨g, if m = 0 then 0 else 0 + p * 1, none⟩) m m] ∧ AllocH (.slice (some ⟨g, 0, none⟩) p c) m h (.slice (some ⟨g, 0, none⟩) (p + m) c) ((some ⟨g, if m = 0 then 0 else 0 + p * 1, none⟩)) h') := by
  refine cl_intro Try.func155 rfl rfl rfl ?_
  have K : Keep [] h h := Keep.refl _ _
  refine tr_seq ?_
  refine tr_reg ?_
  refine rs_v (v_assign rfl) rfl ?_
  refine rs_v (v_assign rfl) rfl ?_
  refine rs_nil ?_
  refine q_thn ?_
  refine tr_seq ?_
  refine tr_seq ?_
  refine tr_reg ?_
  refine rs_v (v_move rfl) rfl ?_
  refine rs_v (v_cap u_bytealloc_A rfl) rfl ?_
  refine rs_v (v_move rfl) rfl ?_
  refine rs_v (v_len u_bytealloc_A rfl) rfl ?_
  refine rs_v (v_sub rfl rfl (by omega) (by omega)) rfl ?_
  refine rs_v (v_move rfl) rfl ?_
  refine rs_v (v_lt rfl rfl) rfl ?_
  refine rs_nil ?_
  refine q_thn ?_
  refine tr_if_f (congrArg some (congrArg Value.bool (decide_eq_false (by omega)))) ?_
  refine tr_skip ?_
  refine q_thn ?_
  refine tr_seq ?_
  refine tr_reg ?_
  refine rs_v (v_move rfl) rfl ?_
  refine rs_v (v_len u_bytealloc_A rfl) rfl ?_
  refine rs_v (v_assign rfl) rfl ?_
  refine rs_nil ?_
  refine q_thn ?_
  refine tr_seq ?_
  refine tr_reg ?_
  refine rs_v (v_move rfl) rfl ?_
  refine rs_v (v_move rfl) rfl ?_
  refine rs_v (v_move rfl) rfl ?_
  refine rs_v (v_move rfl) rfl ?_
  refine rs_v (v_add rfl rfl (by omega) (by omega)) rfl ?_
  refine rs_v (v_move rfl) rfl ?_
  refine rs_v (v_move rfl) rfl ?_
  refine rs_v (v_add rfl rfl (by omega) (by omega)) rfl ?_
  refine rs_v (v_slice_lhm (i := p) (j := m) u_bytealloc_A siz_uint8 rfl rfl rfl rfl rfl (by omega) (by omega) (by omega)) rfl ?_
  refine rs_v (v_assign rfl) rfl ?_
  refine rs_nil ?_
  refine q_thn ?_
  refine tr_seq ?_
  refine tr_reg ?_
  refine rs_v (v_move rfl) rfl ?_
  refine rs_v (v_move rfl) rfl ?_
  refine rs_v (v_move rfl) rfl ?_
  refine rs_v (v_add rfl rfl (by omega) (by omega)) rfl ?_
  refine rs_v (v_slice_h (i := p + m) u_bytealloc_A siz_uint8 rfl rfl (by omega) (by omega)) rfl ?_
  refine rs_v (v_assign rfl) rfl ?_
  refine rs_nil ?_
  refine q_thn ?_
  refine tr_seq ?_
  refine tr_reg ?_
  refine rs_v (v_move rfl) rfl ?_
  refine rs_v (v_move rfl) rfl ?_
  refine rs_v (v_assign rfl) rfl ?_
  refine rs_v (v_assign rfl) rfl ?_
  refine rs_nil ?_
  refine q_thn ?_
  refine tr_ret ?_
  refine q_ret (res_tmp2 rfl rfl rfl) ?_
  exact ⟨rfl, K, .inr ⟨g, p, c, cs, rfl, rfl, h0, hc, hcs, B, .inl rfl⟩⟩
theorem c_Alloc (χ : Chi) (h : Heap) (a : Value) (ha : Aren h a) (m : Nat) (hm : m ≤ 2147483647) :
    ∃ x n c d0, Cl Try.prog χ 155 #[a, .int .i64 (m : Int)] h (fun r h' => r = .tuple #[.slice x n c, .slice d0 m m] ∧ AllocH a m h (.slice x n c) d0 h') := by
  rcases ha with rfl | ⟨g, n, c, cs, rfl, h1, h2, h3, B⟩
  · rcases Nat.eq_zero_or_pos m with h0 | h0
    · exact ⟨_, _, _, _, c_Alloc2 χ h m hm h0⟩
    · exact ⟨_, _, _, _, c_Alloc1 χ h m hm h0⟩
  · rcases Nat.lt_or_ge c (n + m) with h0 | h0
    · exact ⟨_, _, _, _, c_Alloc3 χ h g n c cs h1 h2 h3 B m hm h0⟩
    · exact ⟨_, _, _, _, c_Alloc4 χ h g n c cs h1 h2 h3 B m hm h0⟩
end Go.Proofs.Ytgebfbnndgjkiaa
namespace Go.Proofs.Ytgebfbnndgjkiaa
open Go.Tess Go.RowKit
set_option maxRecDepth 100000
set_option maxHeartbeats 1000000
theorem info_sz_u8 : (Try.prog.info? 5).map (·.size) = some 1 := by kernel_rfl
theorem bc_len (l : List UInt8) : (byteCells l).length = l.length := by simp [byteCells]
theorem bc_at {l : List UInt8} {i : Nat} {x : UInt8} (h : l[i]? = some x) : (byteCells l)[i]? = some (.int .u8 (x.toNat : Int)) := by simp only [byteCells, List.getElem?_map, h]; rfl
theorem ba_size (s : ByteArray) : s.data.toList.length = s.size := Array.length_toList
/-- What is read after bytes have been laid into a row. -/
theorem laid_at {cur cs : List Value} {p : Nat} (hp : p + cs.length ≤ cur.length) : (cur.take p ++ cs ++ cur.drop (p + cs.length)).length = cur.length ∧ (∀ (j : Nat) v, j < p → cur[j]? = some v → (cur.take p ++ cs ++ cur.drop (p + cs.length))[j]? = some v) ∧ ∀ (j : Nat) v, cs[j]? = some v → (cur.take p ++ cs ++ cur.drop (p + cs.length))[p + j]? = some v := by
  have hl : (cur.take p).length = p := by rw [List.length_take]; omega
  refine ⟨by simp; omega, fun j v hj hv => ?_, fun j v hv => ?_⟩
  · rw [List.append_assoc, List.getElem?_append_left (by omega), List.getElem?_take_of_lt hj]; exact hv
  · have hj := (List.getElem?_eq_some_iff.1 hv).1
    rw [List.append_assoc, List.getElem?_append_right (by omega), hl, List.getElem?_append_left (by omega), show p + j - p = j from by omega]; exact hv
theorem copy_fin {a a1 : Value} {d0 : Option Addr} {h h1 h2 : Heap} {s : ByteArray} (ha : Aren h a) (hal : AllocH a s.data.toList.length h a1 d0 h1) (hcp : Copied d0 (byteCells s.data.toList) h1 h2) (hs : s.size ≤ 2147483647) :
    Aren h2 a1 ∧ Tn [] h h2 a a1 ∧ SBy (fun b => b ∈ a1.ownBlock.toList) a1 h2 (.slice d0 s.data.toList.length s.data.toList.length) s := by
  have hsl := ba_size s
  obtain ⟨K, hal⟩ := hal
  rcases hal with ⟨rfl, rfl, rfl, hm⟩ | ⟨g, p, k, cs, rfl, rfl, hpk, hk, hcs, B, ha1⟩
  · have hh : h2 = h1 := by
      rcases hcp with ⟨_, e⟩ | ⟨g, p, cur, T, e, _⟩
      · exact e
      · cases e
    subst hh
    refine ⟨.inl rfl, ⟨K.1, fun b hb _ _ => K.2 b hb (by simp), fun b o v _ _ hc => K.cell (by simp) hc, fun b o hf => ?_, fun x hx => .inl hx⟩, ?_⟩
    · obtain ⟨n, c, e, _⟩ := hf; cases e
    · rw [hm]; exact SBy.nil _ _ _ _ _ (List.eq_nil_of_length_eq_zero hm)
  · -- the block after the copy
    have hfin : ∃ cs2, cs2.length = k ∧ Blk h2 g cs2 5 ∧ Keep [g] h1 h2 ∧ (∀ (j : Nat) v, j < p → cs[j]? = some v → cs2[j]? = some v) ∧ ∀ (j : Nat) v, (byteCells s.data.toList)[j]? = some v → cs2[p + j]? = some v := by
      rcases hcp with ⟨e, rfl⟩ | ⟨g', p', cur, T, e, B1, hfit, B2, K2⟩
      · exact ⟨cs, hcs, B, Keep.refl _ _, fun _ _ _ hv => hv, fun j v hv => by rw [e] at hv; simp at hv⟩
      · have hg : g' = g ∧ p' = if s.data.toList.length = 0 then 0 else 0 + p * 1 := by
          simp only [Option.some.injEq, Addr.mk.injEq] at e; exact ⟨e.1.symm, e.2.1.symm⟩
        obtain ⟨rfl, rfl⟩ := hg
        have he : cur = cs ∧ T = 5 := by
          have := B1.symm.trans B
          simp at this; exact this
        obtain ⟨rfl, rfl⟩ := he
        by_cases h0 : s.data.toList.length = 0
        · have hnil : byteCells s.data.toList = [] := List.eq_nil_of_length_eq_zero (by rw [bc_len]; exact h0)
          rw [hnil] at B2 ⊢
          refine ⟨cur, hcs, by simpa using B2, K2, fun _ _ _ hv => hv, fun j v hv => by simp at hv⟩
        · rw [if_neg h0, Nat.zero_add, Nat.mul_one] at B2 hfit
          obtain ⟨l1, l2, l3⟩ := laid_at hfit
          exact ⟨_, l1.trans hcs, B2, K2, l2, l3⟩
    obtain ⟨cs2, hl2, B2, K2, hold, hnew⟩ := hfin
    have hz := K.1; have hz2 := K2.1
    have hgl := B.lt
    refine ⟨.inr ⟨g, _, k, cs2, rfl, hpk, hk, hl2, B2⟩, ⟨by omega, fun b hb _ ho => ?_, fun b o v _ hf hc => ?_, fun b o hf => ?_, fun x hx => ?_⟩, ⟨by omega, _, _, rfl, fun i x hi => ?_⟩⟩
    · refine (K2.2 b (by omega) (fun hm => ?_)).trans (K.2 b hb (by simp))
      rw [List.mem_singleton] at hm; subst hm
      rcases ha1 with rfl | ⟨h9, _⟩
      · exact ho (by simp [Value.ownBlock])
      · omega
    · have hc1 := K.cell (by simp) hc
      by_cases hb : b = g
      · subst hb
        rcases ha1 with rfl | ⟨h9, _⟩
        · have ho : o < p := Nat.lt_of_not_le fun h => hf ⟨_, _, rfl, h⟩
          have : cs[o]? = some v := by
            simp only [cellH, Blk] at hc1 B
            rw [B] at hc1; simpa using hc1
          exact B2.cell o (hold o v ho this)
        · have := cellH_lt hc; omega
      · exact K2.cell (by simpa using hb) hc1
    · obtain ⟨n, c, e, ho⟩ := hf
      simp only [Value.slice.injEq, Option.some.injEq, Addr.mk.injEq] at e
      obtain ⟨⟨e1, _⟩, e2, _⟩ := e
      subst e1
      rcases ha1 with rfl | ⟨h9, _⟩
      · exact .inl ⟨_, _, rfl, by omega⟩
      · exact .inr (by omega)
    · simp [Value.ownBlock] at hx; subst hx
      rcases ha1 with rfl | ⟨h9, _⟩
      · exact .inl (by simp [Value.ownBlock])
      · exact .inr (by omega)
    · have hil := (List.getElem?_eq_some_iff.1 hi).1
      rw [if_neg (by omega), Nat.zero_add, Nat.mul_one]
      refine ⟨g, p, rfl, ⟨by simp [Value.ownBlock], fun a n c e => by cases e; omega⟩, ?_, fun hf => ?_⟩
      · rw [Nat.mul_one]; exact B2.cell _ (hnew i _ (bc_at hi))
      · obtain ⟨n, c, e, ho⟩ := hf
        simp only [Value.slice.injEq] at e
        omega

theorem c_Copy0 (χ : Chi) (h : Heap) (a : Value) (ha : Aren h a) (A : Nat → Prop) (x : Option Addr) (c : Nat) (s : ByteArray) (hs : s.size ≤ 2147483647) (hsrc : s.data.toList = [] ∨ ∃ b o, x = some ⟨b, o, none⟩ ∧ A b ∧ CellsAt h b o (byteCells s.data.toList)) (a1 : Value) (d0 : Option Addr)
    (hcl : Cl Try.prog χ 155 #[a, .int .i64 (s.data.toList.length : Int)] h (fun r h' => r = .tuple #[a1, .slice d0 s.data.toList.length s.data.toList.length] ∧ AllocH a s.data.toList.length h a1 d0 h')) :
    Cl Try.prog χ 154 #[a, .slice x s.data.toList.length c] h (fun r h' => r = .tuple #[a1, .slice d0 s.data.toList.length s.data.toList.length] ∧ Aren h' a1 ∧ Tn [] h h' a a1 ∧ SBy (fun b => b ∈ a1.ownBlock.toList) a1 h' (.slice d0 s.data.toList.length s.data.toList.length) s) := by
  refine cl_intro Try.func154 rfl rfl rfl ?_
  have K : Keep [] h h := Keep.refl _ _
  refine tr_seq ?_
  refine tr_reg ?_
  refine rs_v (v_assign rfl) rfl ?_
  refine rs_v (v_assign rfl) rfl ?_
  refine rs_nil ?_
  refine q_thn ?_
  refine tr_seq ?_
  refine tr_reg ?_
  refine rs_v (v_assign rfl) rfl ?_
  refine rs_nil ?_
  refine q_thn ?_
  refine tr_seq ?_
  refine tr_reg ?_
  refine rs_v (v_move rfl) rfl ?_
  refine rs_v (v_move rfl) rfl ?_
  refine rs_v (v_len u_sl_uint8 rfl) rfl ?_
  refine rs_w (w_call (vs := [_, _]) ok_bytealloc_A_Alloc rfl ⟨rfl, rfl, trivial⟩ (hcl)) rfl ?_
  rintro _ h1 ⟨rfl, hal⟩
  have hal0 := hal
  obtain ⟨K1, hal1⟩ := hal
  have hsrc1 : byteCells s.data.toList = [] ∨ ∃ b o2, x = some ⟨b, o2, none⟩ ∧ CellsAt h1 b o2 (byteCells s.data.toList) := by
    rcases hsrc with e | ⟨b, o, e, _, hc⟩
    · exact .inl (by rw [e]; rfl)
    · exact .inr ⟨b, o, e, K1.cells (by simp) hc⟩
  have hd : byteCells s.data.toList = [] ∨ ∃ g p cur T, d0 = some ⟨g, p, none⟩ ∧ Blk h1 g cur T ∧ p + s.data.toList.length ≤ cur.length := by
    rcases hal1 with ⟨_, _, _, e⟩ | ⟨g, p, k, cs, _, rfl, hpk, _, hcs, B, _⟩
    · exact .inl (List.eq_nil_of_length_eq_zero (by rw [bc_len]; exact e))
    · refine .inr ⟨g, _, cs, _, rfl, B, ?_⟩
      split <;> omega
  have K := K.new0 K1; have Z1 := K1.1
  refine rs_v (v_move rfl) rfl ?_
  refine rs_v (v_extract rfl rfl) rfl ?_
  refine rs_v (v_extract rfl rfl) rfl ?_
  refine rs_v (v_assign rfl) rfl ?_
  refine rs_v (v_assign rfl) rfl ?_
  refine rs_nil ?_
  refine q_thn ?_
  refine tr_seq ?_
  refine tr_reg ?_
  refine rs_v (v_move rfl) rfl ?_
  refine rs_v (v_move rfl) rfl ?_
  refine rs_w (w_copyS (cs := byteCells s.data.toList) u_sl_uint8 info_sz_u8 rfl rfl (bc_len _) hsrc1 hd bc_one) rfl ?_
  rintro _ h2 hcp
  refine rs_nil ?_
  refine q_thn ?_
  refine tr_seq ?_
  refine tr_reg ?_
  refine rs_v (v_move rfl) rfl ?_
  refine rs_v (v_move rfl) rfl ?_
  refine rs_v (v_assign rfl) rfl ?_
  refine rs_v (v_assign rfl) rfl ?_
  refine rs_nil ?_
  refine q_thn ?_
  refine tr_ret ?_
  refine q_ret (res_tmp2 rfl rfl rfl) ?_
  exact ⟨rfl, copy_fin ha hal0 hcp hs⟩
theorem c_Copy (χ : Chi) (h : Heap) (a : Value) (ha : Aren h a) (A : Nat → Prop) (bv : Value) (s : ByteArray) (hb : RBytes A h bv s) (hs : s.size ≤ 2147483647) :
    ∃ x n k v1, Cl Try.prog χ 154 #[a, bv] h (fun r h' => r = .tuple #[.slice x n k, v1] ∧ Aren h' (.slice x n k) ∧ Tn [] h h' a (.slice x n k) ∧ SBy (fun b => b ∈ (Value.slice x n k).ownBlock.toList) (.slice x n k) h' v1 s) := by
  obtain ⟨x, c, rfl, hsrc⟩ := RBytes.cellsAt hb
  obtain ⟨y, n, k, d0, hcl⟩ := c_Alloc χ h a ha s.data.toList.length (by rw [ba_size]; exact hs)
  exact ⟨y, n, k, _, c_Copy0 χ h a ha A x c s hs hsrc _ d0 hcl⟩
/-- What saving bytes leaves. -/
def SaveP (cb : Nat) (a ksv kbv : Value) (s : ByteArray) (h : Heap) (r : Value) (h' : Heap) : Prop :=
  ∃ a1, Blk h' cb [a1, ksv, kbv] 164 ∧ Aren h' a1 ∧ Tn [cb] h h' a a1 ∧ SBy (fun b => b ∈ a1.ownBlock.toList) a1 h' r s
theorem c_saveBytes (χ : Chi) (h : Heap) (c cb : Nat) (rest : List Value) (a ksv kbv : Value) (A : Nat → Prop) (bv : Value) (s : ByteArray) (Bc : Blk h c (.pointer (some ⟨cb, 0, none⟩) :: rest) 158) (Bb : Blk h cb [a, ksv, kbv] 164)
    (ha : Aren h a) (hca : c ∉ a.ownBlock.toList) (hcba : cb ∉ a.ownBlock.toList) (hb : RBytes A h bv s) (hs : s.size ≤ 2147483647) :
    Cl Try.prog χ 153 #[.pointer (some ⟨c, 0, none⟩), bv] h (SaveP cb a ksv kbv s h) := by
  obtain ⟨x, cx, rfl, hsrc⟩ := RBytes.cellsAt hb
  obtain ⟨xa, na, ka, v1, hcl⟩ := c_Copy χ h a ha A _ s hb hs
  refine cl_intro Try.func153 rfl rfl rfl ?_
  have K : Keep [] h h := Keep.refl _ _
  refine tr_seq ?_
  refine tr_reg ?_
  refine rs_v (v_assign rfl) rfl ?_
  refine rs_nil ?_
  refine q_thn ?_
  refine tr_seq ?_
  refine tr_seq ?_
  refine tr_reg ?_
  refine rs_v (v_move rfl) rfl ?_
  refine rs_v (v_seqn u_sl_uint8 rfl rfl) rfl ?_
  refine rs_nil ?_
  refine q_thn ?_
  refine tr_if rfl (fun hif => ?_) (fun hif => ?_)
  · -- yes
    skip
    refine tr_seq ?_
    refine tr_reg ?_
    refine rs_v (v_assign rfl) rfl ?_
    refine rs_nil ?_
    refine q_thn ?_
    refine tr_ret ?_
    refine q_thn_ret ?_
    refine q_ret (res_tmp rfl rfl) ?_
    have h0 : s.data.toList = [] := by
      rcases hsrc with e | ⟨b, o, e, _⟩
      · exact e
      · rw [e] at hif; simp at hif
    exact ⟨a, Bb, ha, Tn.refl _ _ _, SBy.nil _ _ _ _ _ h0⟩
  -- no
  skip
  refine tr_skip ?_
  refine q_thn ?_
  refine tr_seq ?_
  have hcst : ∀ h', (h' = h ∨ (fun _ h' => Aren h' (Value.slice xa na ka) ∧ Tn [] h h' a (Value.slice xa na ka) ∧ SBy (fun b => b ∈ (Value.slice xa na ka).ownBlock.toList) (Value.slice xa na ka) h' v1 s) h h') → Blk h' c (.pointer (some ⟨cb, 0, none⟩) :: rest) 158 := fun h' e => by
    rcases e with rfl | e
    · exact Bc
    · exact (e.2.1.blk c Bc.lt (by simp) hca).trans Bc
  refine tr_two 12 18 (fun _ h' => Aren h' (Value.slice xa na ka) ∧ Tn [] h h' a (Value.slice xa na ka) ∧ SBy (fun b => b ∈ (Value.slice xa na ka).ownBlock.toList) (Value.slice xa na ka) h' v1 s) (fun h1 h' => Blk h' cb [(Value.slice xa na ka), ksv, kbv] 164 ∧ Keep [cb] h1 h') (by kernel_rfl) (by kernel_rfl) rfl rfl rfl (by kernel_rfl) ?_
  refine rg_v rfl rfl (fun h' hal => v_move rfl) ?_
  refine rg_v rfl rfl (fun h' hal => v_nilCheck_ptr rfl) ?_
  refine rg_v rfl rfl (fun h' hal => v_fieldAddr fa_keyspan_DefragmentingIter_0 rfl) ?_
  refine rg_v rfl rfl (fun h' hal => by have e := al_01 (by kernel_rfl) hal; have hB := hcst h' e; exact v_load one_p_keyspan_DefragmentingBuffers rfl (hB.cell _ rfl)) ?_
  refine rg_v rfl rfl (fun h' hal => v_move rfl) ?_
  refine rg_v rfl rfl (fun h' hal => v_nilCheck_ptr rfl) ?_
  refine rg_v rfl rfl (fun h' hal => v_fieldAddr fa_keyspan_DefragmentingIter_0 rfl) ?_
  refine rg_v rfl rfl (fun h' hal => by have e := al_0 (by kernel_rfl) hal; subst e; exact v_load one_p_keyspan_DefragmentingBuffers rfl (Bc.cell _ rfl)) ?_
  refine rg_v rfl rfl (fun h' hal => v_nilCheck_ptr rfl) ?_
  refine rg_v rfl rfl (fun h' hal => v_fieldAddr fa_keyspan_DefragmentingBuffers_0 rfl) ?_
  refine rg_v rfl rfl (fun h' hal => by have e := al_0 (by kernel_rfl) hal; subst e; exact v_load one_bytealloc_A rfl (Bb.cell _ rfl)) ?_
  refine rg_v rfl rfl (fun h' hal => v_move rfl) ?_
  refine rg_1 rfl (by kernel_rfl) rfl (w_call (vs := [_, _]) ok_bytealloc_A_Copy rfl ⟨rfl, rfl, trivial⟩ hcl) ?_
  refine rg_v rfl rfl (fun h' hal => v_move rfl) ?_
  refine rg_v (v := (Value.slice xa na ka)) rfl rfl (fun h' hal => v_extract rfl rfl) ?_
  refine rg_v (v := v1) rfl rfl (fun h' hal => v_extract rfl rfl) ?_
  refine rg_v rfl rfl (fun h' hal => v_nilCheck_ptr rfl) ?_
  refine rg_v rfl rfl (fun h' hal => v_fieldAddr fa_keyspan_DefragmentingBuffers_0 rfl) ?_
  refine rg_2 rfl (by kernel_rfl) rfl (fun h1 he => OpW.mono (w_put (v := (Value.slice xa na ka)) siz_bytealloc_A rfl rfl rfl rfl ((he.2.1.blk cb Bb.lt (by simp) hcba).trans Bb) rfl) (fun _ _ e => e)) ?_
  refine rg_v rfl rfl (fun h' hal => v_assign rfl) ?_
  refine rg_end ?_ rfl
  rintro h1 h1 he ⟨B2, K2⟩
  simp only [endM, hypF, ofE, argE, List.nil_append]
  intro _
  refine q_thn ?_
  refine tr_seq ?_
  refine tr_reg ?_
  refine rs_v (v_move rfl) rfl ?_
  refine rs_v (v_assign rfl) rfl ?_
  refine rs_nil ?_
  refine q_thn ?_
  refine tr_ret ?_
  refine q_ret (res_tmp rfl rfl) ?_
  have hcb := Bb.lt
  have hnew : ∀ x, x ∈ (Value.slice xa na ka).ownBlock.toList → x ∉ [cb] := fun x hx hm => by
    rw [List.mem_singleton] at hm; subst hm
    rcases he.2.1.own x hx with h1 | h1
    · exact hcba h1
    · omega
  exact ⟨_, B2, he.1.keep K2 hnew, (he.2.1.more (by simp)).put K2, he.2.2.step (Tn.put (Tn.refl _ _ _) K2) hnew (fun _ h => h)⟩
end Go.Proofs.Ytgebfbnndgjkiaa
namespace Go.Proofs.Ytgebfbnndgjkiaa
open Go.Tess Go.RowKit
set_option maxRecDepth 100000
set_option maxHeartbeats 1000000
abbrev bufT : TypeId := 164
abbrev dfT : TypeId := 158
abbrev keyT : TypeId := 130
abbrev u8T : TypeId := 5
theorem blk_inj {h : Heap} {b : Nat} {x y : List Value} {T U : TypeId} (h1 : Blk h b x T) (h2 : Blk h b y U) : x = y := by
  have := h1.symm.trans h2
  simp at this; exact this.1
/-- The cells of a defragmenting iterator. -/
def dL (cb : Nat) (cm eq it sp : Value) (z : Int) (sv ev kv mt rd : Value) : List Value := [.pointer (some ⟨cb, 0, none⟩), cm, eq, it, sp, .int .i8 z, sv, ev, kv, .int .i8 0, mt, rd]
/-- Its blocks lie apart, and apart from those of the iterator beneath. -/
structure Dis (c cb : Nat) (a ksv kbv : Value) (Fin : Nat → Prop) : Prop where
  ne : c ≠ cb
  fc : ¬ Fin c
  fb : ¬ Fin cb
  a1 : ∀ x, x ∈ a.ownBlock.toList → x ≠ c ∧ x ≠ cb ∧ ¬ Fin x
  k1 : ∀ x, x ∈ ksv.ownBlock.toList → x ≠ c ∧ x ≠ cb ∧ ¬ Fin x ∧ x ∉ a.ownBlock.toList
  b1 : ∀ x, x ∈ kbv.ownBlock.toList → x ≠ c ∧ x ≠ cb ∧ ¬ Fin x ∧ x ∉ a.ownBlock.toList ∧ x ∉ ksv.ownBlock.toList
/-- Bytes have been saved in the arena that a block of buffers holds. -/
def SvS (X : List Nat) (cb : Nat) (ksv kbv : Value) (h h' : Heap) : Prop :=
  h.size ≤ h'.size ∧ ∀ a, Blk h cb [a, ksv, kbv] bufT → Aren h a → ∃ a', Blk h' cb [a', ksv, kbv] bufT ∧ Aren h' a' ∧ Tn X h h' a a'
theorem svs_pre (X : List Nat) (cb : Nat) (ksv kbv : Value) : PreO (SvS X cb ksv kbv) where
  refl := fun h => ⟨Nat.le_refl _, fun a B ha => ⟨a, B, ha, Tn.refl _ _ _⟩⟩
  trans := fun x y z h k => ⟨Nat.le_trans h.1 k.1, fun a B ha => by
    obtain ⟨a1, B1, h1, t1⟩ := h.2 a B ha
    obtain ⟨a2, B2, h2, t2⟩ := k.2 a1 B1 h1
    exact ⟨a2, B2, h2, t1.trans t2⟩⟩
theorem SvS.more {X Y : List Nat} {cb : Nat} {ksv kbv : Value} {h h' : Heap} (hs : SvS X cb ksv kbv h h') (hXY : ∀ x, x ∈ X → x ∈ Y) : SvS Y cb ksv kbv h h' :=
  ⟨hs.1, fun a B ha => by
    obtain ⟨a1, B1, h1, t1⟩ := hs.2 a B ha
    exact ⟨a1, B1, h1, t1.more hXY⟩⟩
/-- Bytes that have been saved since a place, besides the rows of keys. -/
def SvV (h0 : Heap) (a0 : Value) (cb : Nat) (ksv kbv : Value) (s : ByteArray) (v : Value) (h : Heap) : Prop :=
  ∃ a G, Blk h cb [a, ksv, kbv] bufT ∧ Aren h a ∧ SBy G a h v s ∧ ∀ b, G b → b < h.size ∧ b ≠ cb ∧ (b ∈ a0.ownBlock.toList ∨ h0.size ≤ b) ∧ b ∉ ksv.ownBlock.toList
theorem SvV.step {X : List Nat} {h0 h h' : Heap} {a0 : Value} {cb : Nat} {ksv kbv v : Value} {s : ByteArray} (hv : SvV h0 a0 cb ksv kbv s v h) (hs : SvS X cb ksv kbv h h') (hX : ∀ x, x ∈ X → x = cb ∨ x ∈ ksv.ownBlock.toList) : SvV h0 a0 cb ksv kbv s v h' := by
  obtain ⟨a, G, B, ha, hb, hG⟩ := hv
  obtain ⟨a1, B1, h1, t1⟩ := hs.2 a B ha
  refine ⟨a1, G, B1, h1, hb.step t1 (fun b hg hm => ?_) (fun _ h => h), fun b hg => ⟨by have := (hG b hg).1; have := hs.1; omega, (hG b hg).2⟩⟩
  rcases hX b hm with e | e
  · exact (hG b hg).2.1 e
  · exact (hG b hg).2.2.2 e
theorem SvV.form {h0 h : Heap} {a0 : Value} {cb : Nat} {ksv kbv v : Value} {s : ByteArray} (hv : SvV h0 a0 cb ksv kbv s v h) : ∃ x n k, v = .slice x n k := by
  obtain ⟨a, G, B, ha, hb, hG⟩ := hv
  obtain ⟨x, k, e⟩ := SlR.form2 hb
  exact ⟨x, _, k, e⟩
/-- What a call of saveBytes gives. -/
theorem save_svs {cb : Nat} {a ksv kbv r : Value} {s : ByteArray} {h h' : Heap} (B : Blk h cb [a, ksv, kbv] bufT) (hp : SaveP cb a ksv kbv s h r h') : SvS [cb] cb ksv kbv h h' := by
  obtain ⟨a1, B1, h1, t1, _⟩ := hp
  refine ⟨t1.sz, fun a2 B2 _ => ?_⟩
  have := blk_inj B B2
  simp only [List.cons.injEq, and_true] at this
  obtain ⟨rfl, _⟩ := this
  exact ⟨a1, B1, h1, t1⟩
theorem save_svv {X : List Nat} {cb : Nat} {a0 a ksv kbv r : Value} {s : ByteArray} {h0 h h' : Heap} (t0 : Tn X h0 h a0 a) (hcb : cb < h0.size) (ha0 : ∀ x, x ∈ a0.ownBlock.toList → x ≠ cb ∧ x ∉ ksv.ownBlock.toList) (hk : ∀ x, x ∈ ksv.ownBlock.toList → x < h0.size)
    (hp : SaveP cb a ksv kbv s h r h') : SvV h0 a0 cb ksv kbv s r h' := by
  obtain ⟨a1, B1, h1, t1, hb⟩ := hp
  refine ⟨a1, _, B1, h1, hb, fun b hb => ?_⟩
  have hz := t0.sz
  have hor : b ∈ a0.ownBlock.toList ∨ h0.size ≤ b := by
    rcases t1.own b hb with h2 | h2
    · rcases t0.own b h2 with h3 | h3
      · exact .inl h3
      · exact .inr h3
    · exact .inr (by omega)
  refine ⟨h1.low b hb, ?_, hor, ?_⟩
  · rcases hor with h2 | h2
    · exact (ha0 b h2).1
    · omega
  · rcases hor with h2 | h2
    · exact (ha0 b h2).2
    · intro hm; have := hk b hm; omega
/-- A key whose bytes have been saved. -/
def cSKey (G : Nat → Prop) (a : Value) (h : Heap) (c : List Value) (k : KeyD) : Prop := ∃ sv vv, c = [.int .u64 k.tr, sv, vv] ∧ SBy G a h sv k.suf ∧ SBy G a h vv k.val
theorem cSKey.step {X : List Nat} {G G' : Nat → Prop} {a a' : Value} {h h' : Heap} {c : List Value} {k : KeyD} (hs : cSKey G a h c k) (t : Tn X h h' a a') (hX : ∀ b, G b → b ∉ X) (hG : ∀ b, G b → G' b) : cSKey G' a' h' c k := by
  obtain ⟨sv, vv, e, h1, h2⟩ := hs
  exact ⟨sv, vv, e, h1.step t hX hG, h2.step t hX hG⟩
theorem cSKey.pkey {G : Nat → Prop} {a : Value} {h : Heap} {c : List Value} {k : KeyD} (hs : cSKey G a h c k) : cPKey G h c k := by
  obtain ⟨sv, vv, e, h1, h2⟩ := hs
  exact ⟨sv, vv, e, h1.bytes, h2.bytes⟩
/-- The slice of one key that is appended. -/
def NewK (h0 : Heap) (a0 : Value) (cb : Nat) (ksv kbv : Value) (k : KeyD) (v : Value) (h : Heap) : Prop :=
  ∃ g v1 v2 a, v = .slice (some ⟨g, 0, none⟩) 1 1 ∧ Blk h g [.int .u64 k.tr, v1, v2] keyT ∧ Blk h cb [a, ksv, kbv] bufT ∧ Aren h a ∧ h0.size ≤ g ∧ g ∉ a.ownBlock.toList ∧ SvV h0 a0 cb ksv kbv k.suf v1 h ∧ SvV h0 a0 cb ksv kbv k.val v2 h
theorem NewK.step {X : List Nat} {h0 h h' : Heap} {a0 : Value} {cb : Nat} {ksv kbv v : Value} {k : KeyD} (hv : NewK h0 a0 cb ksv kbv k v h) (hs : SvS X cb ksv kbv h h') (hX : ∀ x, x ∈ X → x = cb ∨ x ∈ ksv.ownBlock.toList) (hcb : cb < h0.size) (hk : ∀ x, x ∈ ksv.ownBlock.toList → x < h0.size) : NewK h0 a0 cb ksv kbv k v h' := by
  obtain ⟨g, v1, v2, a, e, Bg, B, ha, hg, hga, h1, h2⟩ := hv
  obtain ⟨a1, B1, ha1, t1⟩ := hs.2 a B ha
  have hgX : g ∉ X := fun hm => by
    rcases hX g hm with e | e
    · omega
    · have := hk g e; omega
  refine ⟨g, v1, v2, a1, e, (t1.blk g Bg.lt hgX hga).trans Bg, B1, ha1, hg, fun hm => ?_, h1.step hs hX, h2.step hs hX⟩
  rcases t1.own g hm with h3 | h3
  · exact hga h3
  · have := Bg.lt; omega
/-- The row of keys behind the append. -/
def AppK (h0 : Heap) (a0 : Value) (cb : Nat) (ksv kbv : Value) (m : Nat) (xs : List Value) (k : KeyD) (v : Value) (h : Heap) : Prop :=
  ∃ v1 v2 a G, Blk h cb [a, ksv, kbv] bufT ∧ Aren h a ∧ Own h 0 keyT 3 v (m + 1) (xs ++ [.int .u64 k.tr, v1, v2]) ∧ SBy G a h v1 k.suf ∧ SBy G a h v2 k.val ∧
    (∀ b, G b → b < h.size ∧ b ≠ cb ∧ (b ∈ a0.ownBlock.toList ∨ h0.size ≤ b) ∧ b ∉ v.ownBlock.toList ∧ b ∉ ksv.ownBlock.toList) ∧ ∀ x, x ∈ v.ownBlock.toList → (x ∈ ksv.ownBlock.toList ∨ h0.size ≤ x) ∧ x ≠ cb ∧ x ∉ a.ownBlock.toList
theorem AppK.step {h0 h h' : Heap} {a0 : Value} {cb : Nat} {ksv kbv v : Value} {m : Nat} {xs : List Value} {k : KeyD} (hv : AppK h0 a0 cb ksv kbv m xs k v h) (hs : SvS [cb] cb ksv kbv h h') : AppK h0 a0 cb ksv kbv m xs k v h' := by
  obtain ⟨v1, v2, a, G, B, ha, O, h1, h2, hG, ho⟩ := hv
  obtain ⟨a1, B1, ha1, t1⟩ := hs.2 a B ha
  have hGX : ∀ b, G b → b ∉ [cb] := fun b hb hm => (hG b hb).2.1 (by simpa using hm)
  have hz := hs.1
  have hol := own_ne O
  refine ⟨v1, v2, a1, G, B1, ha1, O.keep2 t1.keep (fun x hx hm => ?_), h1.step t1 hGX (fun _ h => h), h2.step t1 hGX (fun _ h => h), fun b hb => ⟨by have := (hG b hb).1; omega, (hG b hb).2⟩, fun x hx => ⟨(ho x hx).1, (ho x hx).2.1, fun hm => ?_⟩⟩
  · rcases List.mem_append.1 hm with e | e
    · exact (ho x hx).2.1 (by simpa using e)
    · exact (ho x hx).2.2 e
  · rcases t1.own x hm with h3 | h3
    · exact (ho x hx).2.2 h3
    · have := (hol x hx).2; omega
/-- The append itself. -/
theorem app_svs {cb : Nat} {a ksv kbv : Value} {h h' : Heap} (B : Blk h cb [a, ksv, kbv] bufT) (ha : Aren h a) (hd : ∀ x, x ∈ ksv.ownBlock.toList → x ≠ cb ∧ x ∉ a.ownBlock.toList) (K : Keep ksv.ownBlock.toList h h') : SvS (cb :: ksv.ownBlock.toList) cb ksv kbv h h' := by
  refine ⟨K.1, fun a2 B2 _ => ?_⟩
  have := blk_inj B B2
  simp only [List.cons.injEq, and_true] at this
  obtain ⟨rfl, _⟩ := this
  exact ⟨a, K.blk (fun hm => (hd cb hm).1 rfl) B, ha.keep K (fun x hx hm => (hd x hm).2 hx), (Tn.refl _ _ _).put (K.sub fun x hx => List.mem_cons_of_mem _ hx)⟩
theorem app_appk {X : List Nat} {h0 h h' : Heap} {a0 : Value} {cb : Nat} {ksv kbv v : Value} {m : Nat} {xs : List Value} {k : KeyD} {a1 v1 v2 : Value} (t0 : Tn X h0 h a0 a1) (hcb : cb < h0.size) (hd : ∀ x, x ∈ ksv.ownBlock.toList → x ≠ cb ∧ x ∉ a0.ownBlock.toList ∧ x < h0.size)
    (B : Blk h cb [a1, ksv, kbv] bufT) (ha : Aren h a1) (hs1 : SvV h0 a0 cb ksv kbv k.suf v1 h) (hs2 : SvV h0 a0 cb ksv kbv k.val v2 h) (O : Own h' 0 keyT 3 v (m + 1) (xs ++ [.int .u64 k.tr, v1, v2])) (K : Keep ksv.ownBlock.toList h h') (hv : v.ownBlock = ksv.ownBlock ∨ v.ownBlock = some h.size) : AppK h0 a0 cb ksv kbv m xs k v h' := by
  obtain ⟨x1, G1, C1, _, b1, g1⟩ := hs1
  obtain ⟨x2, G2, C2, _, b2, g2⟩ := hs2
  have e1 := blk_inj B C1; have e2 := blk_inj B C2
  simp only [List.cons.injEq, and_true] at e1 e2
  obtain ⟨rfl, _⟩ := e1; obtain ⟨rfl, _⟩ := e2
  have hz := t0.sz; have hzk := K.1
  have ha1 : ∀ x, x ∈ a1.ownBlock.toList → x ∉ ksv.ownBlock.toList := fun x hx hm => by
    rcases t0.own x hx with e | e
    · exact (hd x hm).2.1 e
    · have := (hd x hm).2.2; omega
  have T : Tn ksv.ownBlock.toList h h' a1 a1 := (Tn.refl _ _ _).put K
  have hG : ∀ b, G1 b ∨ G2 b → b < h.size ∧ b ≠ cb ∧ (b ∈ a0.ownBlock.toList ∨ h0.size ≤ b) ∧ b ∉ ksv.ownBlock.toList := fun b hb => hb.elim (g1 b) (g2 b)
  have hvb : ∀ x, x ∈ v.ownBlock.toList → x ∈ ksv.ownBlock.toList ∨ x = h.size := fun x hx => by
    rcases hv with e | e
    · rw [e] at hx; exact .inl hx
    · rw [e] at hx; simp at hx; exact .inr hx
  refine ⟨v1, v2, a1, fun b => G1 b ∨ G2 b, K.blk (fun hm => (hd cb hm).1 rfl) B, ha.keep K ha1, O, b1.step T (fun b hb => (g1 b hb).2.2.2) (fun b hb => .inl hb), b2.step T (fun b hb => (g2 b hb).2.2.2) (fun b hb => .inr hb), fun b hb => ?_, fun x hx => ?_⟩
  · obtain ⟨q1, q2, q3, q4⟩ := hG b hb
    refine ⟨by omega, q2, q3, fun hm => ?_, q4⟩
    rcases hvb b hm with e | e
    · exact q4 e
    · omega
  · rcases hvb x hx with e | e
    · exact ⟨.inl e, (hd x e).1, fun hm => ha1 x hm e⟩
    · exact ⟨.inr (by omega), by omega, fun hm => by have := ha.low x hm; omega⟩
section
variable {P : Program} {χ : Chi} {n : Nat} {ops : Array Oper} {rest : List Oper} {S Sb : Heap → Heap → Prop} {h0 : Heap} {Z : MEnv → List (Heap → Prop) → Prop} {M : MEnv} {F : List (Heap → Prop)} {big : Bool}
  {dd : Nat} {op : Op} {ty : TypeId} {pos : String} {after : Array Edge}
/-- One that looks at two loose slots, at one, in a part with a great one. -/
theorem rb_o2 (t t2 : Nat) {Ψ Ψ2 : Value → Heap → Prop} (Φ : Value → Heap → Prop) (hne : (t2 == t) = false) (hl : M.lookup t = some (.loose Ψ)) (hl2 : M.lookup t2 = some (.loose Ψ2))
    (hm : ((⟨some dd, op, ty, pos, after, none⟩ : Oper).looksAt ops).contains t = true) (hm2 : ((⟨some dd, op, ty, pos, after, none⟩ : Oper).looksAt ops).contains t2 = true)
    (hst : ∀ v h h', S h0 h → S h h' → Φ v h → Φ v h')
    (hw : ∀ u u2 h', S h0 h' → Ψ u h' → Ψ2 u2 h' → OpW P χ ⟨some dd, op, ty, pos, after, none⟩ (evM ((t2, .val u2) :: (t, .val u) :: M)) h' (fun v h'' => Sb h' h'' ∧ Φ v h''))
    (k : RMb P χ n ops Sb S h0 Z big rest ((dd, .loose Φ) :: M) F) : RMb P χ n ops Sb S h0 Z big (⟨some dd, op, ty, pos, after, none⟩ :: rest) M F :=
  ⟨.loose Φ, false, by simp, fun _ => hst, by simp, fun _ h' hs => om_open t hl hm fun u hu => om_open t2 (by rw [List.lookup_cons, hne]; exact hl2) hm2 fun u2 hu2 => om_w (by simp) rfl (hw u u2 h' hs hu hu2), by simp, by rw [show (big && !false) = big from by simp]; exact k⟩
theorem rb_o (t : Nat) {Ψ : Value → Heap → Prop} (Φ : Value → Heap → Prop) (hl : M.lookup t = some (.loose Ψ)) (hm : ((⟨some dd, op, ty, pos, after, none⟩ : Oper).looksAt ops).contains t = true)
    (hst : ∀ v h h', S h0 h → S h h' → Φ v h → Φ v h')
    (hw : ∀ u h', S h0 h' → Ψ u h' → OpW P χ ⟨some dd, op, ty, pos, after, none⟩ (evM ((t, .val u) :: M)) h' (fun v h'' => Sb h' h'' ∧ Φ v h''))
    (k : RMb P χ n ops Sb S h0 Z big rest ((dd, .loose Φ) :: M) F) : RMb P χ n ops Sb S h0 Z big (⟨some dd, op, ty, pos, after, none⟩ :: rest) M F :=
  ⟨.loose Φ, false, by simp, fun _ => hst, by simp, fun _ h' hs => om_open t hl hm fun u hu => om_w (by simp) rfl (hw u h' hs hu), by simp, by rw [show (big && !false) = big from by simp]; exact k⟩
end
end Go.Proofs.Ytgebfbnndgjkiaa
namespace Go.Proofs.Ytgebfbnndgjkiaa
open Go.Tess Go.RowKit
set_option maxRecDepth 100000
set_option maxHeartbeats 1000000
def SmS (s : SpanD) : Prop := s.s.size ≤ 2147483647 ∧ s.e.size ≤ 2147483647 ∧ s.ks.length ≤ 100000 ∧ ∀ k, k ∈ s.ks → k.suf.size ≤ 2147483647 ∧ k.val.size ≤ 2147483647
/-- The iterator while it keeps a span: k of the keys are kept. -/
structure SvI (c cb : Nat) (a0 k0 kb : Value) (cells : List Value) (h0 : Heap) (s : SpanD) (sv ev : Value) (k : Nat) (a1 k1 : Value) (xs : List Value) (G : Nat → Prop) (h : Heap) : Prop where
  bc : Blk h c cells dfT
  bb : Blk h cb [a1, k1, kb] bufT
  ar : Aren h a1
  ow : Own h 0 keyT 3 k1 k xs
  rw : RowsR 3 (cSKey G a1 h) xs (s.ks.take k)
  b1 : SBy G a1 h sv s.s
  b2 : SBy G a1 h ev s.e
  g : ∀ b, G b → b < h.size ∧ (b ∈ a0.ownBlock.toList ∨ h0.size ≤ b) ∧ b ∉ k1.ownBlock.toList
  ao : ∀ x, x ∈ a1.ownBlock.toList → x ∈ a0.ownBlock.toList ∨ h0.size ≤ x
  ko : ∀ x, x ∈ k1.ownBlock.toList → (x ∈ k0.ownBlock.toList ∨ h0.size ≤ x) ∧ x ∉ a1.ownBlock.toList
  kp : Keep (c :: cb :: (a0.ownBlock.toList ++ k0.ownBlock.toList)) h0 h
section
variable {c cb : Nat} {a0 k0 kb a1 k1 sv ev : Value} {cells cells' : List Value} {h0 h h' ha : Heap} {s : SpanD} {k : Nat} {xs : List Value} {G : Nat → Prop} {Fin : Nat → Prop}
theorem SvI.ane (i : SvI c cb a0 k0 kb cells h0 s sv ev k a1 k1 xs G h) (hd : Dis c cb a0 k0 kb Fin) (hc : c < h0.size) (hb : cb < h0.size) : ∀ x, x ∈ a1.ownBlock.toList → x ≠ c ∧ x ≠ cb := fun x hx => by
  rcases i.ao x hx with e | e
  · exact ⟨(hd.a1 x e).1, (hd.a1 x e).2.1⟩
  · exact ⟨by omega, by omega⟩
theorem SvI.kne (i : SvI c cb a0 k0 kb cells h0 s sv ev k a1 k1 xs G h) (hd : Dis c cb a0 k0 kb Fin) (hc : c < h0.size) (hb : cb < h0.size) : ∀ x, x ∈ k1.ownBlock.toList → x ≠ c ∧ x ≠ cb := fun x hx => by
  rcases (i.ko x hx).1 with e | e
  · exact ⟨(hd.k1 x e).1, (hd.k1 x e).2.1⟩
  · exact ⟨by omega, by omega⟩
theorem SvI.gne (i : SvI c cb a0 k0 kb cells h0 s sv ev k a1 k1 xs G h) (hd : Dis c cb a0 k0 kb Fin) (hc : c < h0.size) (hb : cb < h0.size) : ∀ b, G b → b ≠ c ∧ b ≠ cb := fun x hx => by
  rcases (i.g x hx).2.1 with e | e
  · exact ⟨(hd.a1 x e).1, (hd.a1 x e).2.1⟩
  · exact ⟨by omega, by omega⟩
/-- A store into the iterator's own block. -/
theorem SvI.putC (i : SvI c cb a0 k0 kb cells h0 s sv ev k a1 k1 xs G h) (hd : Dis c cb a0 k0 kb Fin) (hc : c < h0.size) (hb : cb < h0.size) (K : Keep [c] h h') (B : Blk h' c cells' dfT) : SvI c cb a0 k0 kb cells' h0 s sv ev k a1 k1 xs G h' := by
  have T : Tn [c] h h' a1 a1 := (Tn.refl _ _ _).put K
  have hg : ∀ b, G b → b ∉ [c] := fun b hb' hm => (i.gne hd hc hb b hb').1 (by simpa using hm)
  exact ⟨B, K.blk (by simp; exact fun e => hd.ne e.symm) i.bb, i.ar.keep K (fun x hx hm => (i.ane hd hc hb x hx).1 (by simpa using hm)), i.ow.keep2 K (fun x hx hm => (i.kne hd hc hb x hx).1 (by simpa using hm)),
    i.rw.mono fun c a hr => hr.step T hg (fun _ h => h), i.b1.step T hg (fun _ h => h), i.b2.step T hg (fun _ h => h), fun b hb => ⟨by have := (i.g b hb).1; have := K.1; omega, (i.g b hb).2⟩, i.ao, i.ko, i.kp.trans (K.sub (by simp))⟩
/-- The first two saved, and curr told of them. -/
theorem SvI.start (hd : Dis c cb a0 k0 kb Fin) (hcl : c < h0.size) (hbl : cb < h0.size) {kv : Value} (hkv : kv.ownBlock = k0.ownBlock) {kb2 : Value} (K0 : Keep [c, cb] h0 h) (ha0 : Aren h a0) (Bb : Blk h cb [a0, kv, kb2] bufT) (Ok : Own h 0 keyT 3 kv 0 [])
    (Sv : SvS [cb] cb kv kb2 h ha) (q1 : SvV h a0 cb kv kb2 s.s sv ha) (q2 : SvV h a0 cb kv kb2 s.e ev ha) (K : Keep [c] ha h') (B : Blk h' c cells dfT) : ∃ a1 G, SvI c cb a0 k0 kb2 cells h0 s sv ev 0 a1 kv [] G h' := by
  obtain ⟨a1, B1, ha1, T⟩ := Sv.2 a0 Bb ha0
  obtain ⟨x1, G1, C1, _, b1, g1⟩ := q1
  obtain ⟨x2, G2, C2, _, b2, g2⟩ := q2
  have e1 := blk_inj B1 C1; have e2 := blk_inj B1 C2
  simp only [List.cons.injEq, and_true] at e1 e2
  obtain ⟨rfl, _⟩ := e1; obtain ⟨rfl, _⟩ := e2
  have hz := K0.1; have hz2 := T.sz; have hz3 := K.1
  have hG : ∀ b, G1 b ∨ G2 b → b < ha.size ∧ b ≠ cb ∧ (b ∈ a0.ownBlock.toList ∨ h.size ≤ b) ∧ b ∉ kv.ownBlock.toList := fun b hb => hb.elim (g1 b) (g2 b)
  have hGc : ∀ b, G1 b ∨ G2 b → b ∉ [c] := fun b hb hm => by
    rw [List.mem_singleton] at hm; subst hm
    rcases (hG b hb).2.2.1 with e | e
    · exact (hd.a1 b e).1 rfl
    · omega
  have hao : ∀ x, x ∈ a1.ownBlock.toList → x ∈ a0.ownBlock.toList ∨ h0.size ≤ x := fun x hx => by
    rcases T.own x hx with e | e
    · exact .inl e
    · exact .inr (by omega)
  have hac : ∀ x, x ∈ a1.ownBlock.toList → x ≠ c := fun x hx => by
    rcases hao x hx with e | e
    · exact (hd.a1 x e).1
    · omega
  have Tc : Tn [c] ha h' a1 a1 := (Tn.refl _ _ _).put K
  refine ⟨a1, fun b => G1 b ∨ G2 b, B, K.blk (by simp; exact fun e => hd.ne e.symm) B1, ha1.keep K (fun x hx hm => hac x hx (by simpa using hm)), ?_, RowsR.nil _ _, b1.step Tc (fun b hb => hGc b (.inl hb)) (fun _ h => .inl h), b2.step Tc (fun b hb => hGc b (.inr hb)) (fun _ h => .inr h), fun b hb => ?_, hao, fun x hx => ?_, ?_⟩
  · refine (Ok.keep2 T.keep (fun x hx hm => ?_)).keep2 K (fun x hx hm => ?_)
    · rw [hkv] at hx
      rcases List.mem_append.1 hm with e | e
      · exact (hd.k1 x hx).2.1 (by simpa using e)
      · exact (hd.k1 x hx).2.2.2 e
    · rw [hkv] at hx; exact (hd.k1 x hx).1 (by simpa using hm)
  · obtain ⟨p1, p2, p3, p4⟩ := hG b hb
    refine ⟨by omega, ?_, p4⟩
    rcases p3 with e | e
    · exact .inl e
    · exact .inr (by omega)
  · rw [hkv] at hx
    refine ⟨.inl hx, fun hm => ?_⟩
    have hxl := (own_ne Ok x (by rw [hkv]; exact hx)).2
    rcases T.own x hm with e | e
    · exact (hd.k1 x hx).2.2.2 e
    · omega
  · refine ⟨by omega, fun b hb hm => ?_⟩
    simp only [List.mem_cons, List.mem_append, not_or] at hm
    obtain ⟨m1, m2, m3, m4⟩ := hm
    exact (K.2 b (by omega) (by simpa using m1)).trans ((T.blk b (by omega) (by simpa using m2) m3).trans (K0.2 b hb (by simp; exact ⟨m1, m2⟩)))
/-- One key more. -/
theorem SvI.app (i : SvI c cb a0 k0 kb cells h0 s sv ev k a1 k1 xs G h) (hd : Dis c cb a0 k0 kb Fin) (hcl : c < h0.size) (hbl : cb < h0.size) {key : KeyD} (hk : s.ks[k]? = some key) (Sv : SvS (cb :: k1.ownBlock.toList) cb k1 kb h ha) {v : Value} (q : AppK h a1 cb k1 kb k xs key v ha)
    (K : Keep [cb] ha h') (B : ∀ a2, Blk ha cb [a2, k1, kb] bufT → Blk h' cb [a2, v, kb] bufT) : ∃ a2 xs2 G2, SvI c cb a0 k0 kb cells h0 s sv ev (k + 1) a2 v xs2 G2 h' := by
  obtain ⟨a2, B2, ha2, T⟩ := Sv.2 a1 i.bb i.ar
  obtain ⟨v1, v2, a3, G3, B3, _, O, b1, b2, g3, ho⟩ := q
  have e1 := blk_inj B2 B3
  simp only [List.cons.injEq, and_true] at e1
  obtain ⟨rfl, _⟩ := e1
  have hz := T.sz; have hz2 := K.1; have hz0 := i.kp.1
  have hane := i.ane hd hcl hbl; have hkne := i.kne hd hcl hbl; have hgne := i.gne hd hcl hbl
  have hGX : ∀ b, G b → b ∉ cb :: k1.ownBlock.toList := fun b hb hm => by
    rcases List.mem_cons.1 hm with e | e
    · exact (hgne b hb).2 e
    · exact (i.g b hb).2.2 e
  have T2 : Tn [cb] ha h' a2 a2 := (Tn.refl _ _ _).put K
  have hGc : ∀ b, G b → b ∉ [cb] := fun b hb hm => (hgne b hb).2 (by simpa using hm)
  have hG3c : ∀ b, G3 b → b ∉ [cb] := fun b hb hm => (g3 b hb).2.1 (by simpa using hm)
  have hao : ∀ x, x ∈ a2.ownBlock.toList → x ∈ a0.ownBlock.toList ∨ h0.size ≤ x := fun x hx => by
    rcases T.own x hx with e | e
    · exact i.ao x e
    · exact .inr (by omega)
  refine ⟨a2, xs ++ [.int .u64 key.tr, v1, v2], fun b => G b ∨ G3 b, ?_, B a2 B2, ha2.keep K (fun x hx hm => ?_), O.keep2 K (fun x hx hm => (ho x hx).2.1 (by simpa using hm)), ?_, (i.b1.step T hGX (fun _ h => h)).step T2 hGc (fun _ h => .inl h), (i.b2.step T hGX (fun _ h => h)).step T2 hGc (fun _ h => .inl h), fun b hb => ?_, hao, fun x hx => ?_, ?_⟩
  · refine (K.2 c (by have := i.bc.lt; omega) (by simp; exact hd.ne)).trans ((T.blk c i.bc.lt (fun hm => ?_) (fun hm => (hane c hm).1 rfl)).trans i.bc)
    rcases List.mem_cons.1 hm with e | e
    · exact hd.ne e
    · exact (hkne c e).1 rfl
  · have : x ≠ cb := by
      rcases hao x hx with e | e
      · exact (hd.a1 x e).2.1
      · omega
    exact this (by simpa using hm)
  · rw [take_snoc' hk]
    exact RowsR.snoc (i.rw.mono fun c a hr => (hr.step T hGX (fun _ h => h)).step T2 hGc (fun _ h => .inl h)) rfl ⟨v1, v2, rfl, b1.step T2 hG3c (fun _ h => .inr h), b2.step T2 hG3c (fun _ h => .inr h)⟩
  · rcases hb with hb | hb
    · obtain ⟨p1, p2, p3⟩ := i.g b hb
      refine ⟨by omega, p2, fun hm => ?_⟩
      rcases (ho b hm).1 with e | e
      · exact p3 e
      · omega
    · obtain ⟨p1, p2, p3, p4, _⟩ := g3 b hb
      refine ⟨by omega, ?_, p4⟩
      rcases p3 with e | e
      · exact i.ao b e
      · exact .inr (by omega)
  · obtain ⟨p1, p2, p3⟩ := ho x hx
    refine ⟨?_, p3⟩
    rcases p1 with e | e
    · exact (i.ko x e).1
    · exact .inr (by omega)
  · refine ⟨by omega, fun b hb hm => ?_⟩
    have hm0 := hm
    simp only [List.mem_cons, List.mem_append, not_or] at hm
    obtain ⟨m1, m2, m3, m4⟩ := hm
    refine (K.2 b (by omega) (by simpa using m2)).trans ((T.blk b (by omega) (fun h9 => ?_) (fun h9 => ?_)).trans (i.kp.2 b hb hm0))
    · rcases List.mem_cons.1 h9 with e | e
      · exact m2 e
      · rcases (i.ko b e).1 with e2 | e2
        · exact m4 e2
        · omega
    · rcases i.ao b h9 with e2 | e2
      · exact m3 e2
      · omega
end
theorem c_Reset (χ : Chi) (h : Heap) (x : Option Addr) (n c : Nat) :
    Cl Try.prog χ 140 #[.slice x n c] h (fun r h' => r = .slice x 0 c ∧ h' = h) := by
  refine cl_intro Try.func140 rfl rfl rfl ?_
  have K : Keep [] h h := Keep.refl _ _
  refine tr_seq ?_
  refine tr_reg ?_
  refine rs_v (v_assign rfl) rfl ?_
  refine rs_nil ?_
  refine q_thn ?_
  refine tr_seq ?_
  refine tr_reg ?_
  refine rs_v (v_move rfl) rfl ?_
  refine rs_v (v_slice_h (i := 0) u_bytealloc_A siz_uint8 rfl rfl rfl (Nat.zero_le _)) rfl ?_
  refine rs_v (v_assign rfl) rfl ?_
  refine rs_nil ?_
  refine q_thn ?_
  refine tr_ret ?_
  refine q_ret (res_tmp rfl rfl) ?_
  exact ⟨rfl, rfl⟩
end Go.Proofs.Ytgebfbnndgjkiaa
namespace Go.Proofs.Ytgebfbnndgjkiaa
open Go.Tess Go.RowKit
set_option maxRecDepth 100000
set_option maxHeartbeats 2000000
theorem svs_new {X : List Nat} {cb : Nat} {ksv kbv : Value} {h h' : Heap} (K : Keep [] h h') : SvS X cb ksv kbv h h' :=
  ⟨K.1, fun a B ha => ⟨a, K.blk (by simp) B, ha.keep K (by simp), (Tn.refl _ _ _).put K.any⟩⟩
theorem own_cut {x : Option Addr} {n c m d : Nat} : (Value.slice x n c).ownBlock = (Value.slice x m d).ownBlock := by cases x <;> rfl
theorem mem_cut {x : Option Addr} {n c m d y : Nat} (h : y ∈ (Value.slice x n c).ownBlock.toList) : y ∈ (Value.slice x m d).ownBlock.toList := by rw [own_cut (m := m) (d := d)] at h; exact h
theorem key_get {Fin : Nat → Prop} {h : Heap} {x : Option Addr} {n kc : Nat} {s : SpanD} {k : Nat} (hr : PKeys Fin h (.slice x n kc) s.ks) (hk : k < s.ks.length) : ∃ kb ko key sv vv, x = some ⟨kb, ko, none⟩ ∧ s.ks[k]? = some key ∧ CellsAt h kb (ko + k * 3) [.int .u64 key.tr, sv, vv] ∧ Fin kb ∧ RBytes Fin h sv key.suf ∧ RBytes Fin h vv key.val := by
  obtain ⟨_, ka, kc2, e, hx⟩ := SlR.form hr
  cases e
  rcases hx with e | ⟨kb, ko, e, hkb, hR⟩
  · rw [e] at hk; simp at hk
  · have hkey : s.ks[k]? = some s.ks[k] := List.getElem?_eq_getElem hk
    obtain ⟨sv, vv, h1, h2, h3⟩ := hR k _ hkey
    exact ⟨kb, ko, _, sv, vv, e, hkey, h1, hkb, h2, h3⟩

theorem c_saveCurrent (χ : Chi) (h : Heap) (c cb : Nat) (cm eq it : Value) (z : Int) (sv ev kv mt rd : Value) (xa : Option Addr) (na ca : Nat) (ak : Option Addr) (nk ck : Nat) (ab : Option Addr) (nb cb2 : Nat) (xk xb : List Value) (Fin : Nat → Prop) (bi oi : Nat) (s : SpanD)
    (Bc : Blk h c (dL cb cm eq it (.pointer (some ⟨bi, oi, none⟩)) z sv ev kv mt rd) dfT) (Bb : Blk h cb [(Value.slice xa na ca), (Value.slice ak nk ck), .slice ab nb cb2] bufT) (ha : Aren h (Value.slice xa na ca)) (Ok : Own h 0 keyT 3 (Value.slice ak nk ck) nk xk) (Ob : Own h 0 u8T 1 (.slice ab nb cb2) nb xb)
    (hps : PSpan Fin h bi oi s) (hbi : Fin bi) (hlow : Low Fin h) (hd : Dis c cb (Value.slice xa na ca) (Value.slice ak nk ck) (.slice ab nb cb2) Fin) (hsm : SmS s) :
    Cl Try.prog χ 149 #[.pointer (some ⟨c, 0, none⟩)] h (fun r h' => r = .tuple #[] ∧ ∃ sv' ev' a1 k1 xs G,
      SvI c cb (Value.slice xa na ca) (Value.slice ak nk ck) (Value.slice ab 0 cb2) (dL cb cm eq it (.pointer (some ⟨bi, oi, none⟩)) z sv' ev' k1 mt rd) h s sv' ev' s.ks.length a1 k1 xs G h' ∧ Own h' 0 u8T 1 (Value.slice ab 0 cb2) 0 []) := by
  have hne := hd.ne
  have hcl := Bc.lt
  have hbl := Bb.lt
  have hd2 : Dis c cb (Value.slice xa na ca) (Value.slice ak nk ck) (Value.slice ab 0 cb2) Fin := ⟨hd.ne, hd.fc, hd.fb, hd.a1, hd.k1, fun x hx => hd.b1 x (mem_cut hx)⟩
  refine cl_intro Try.func149 rfl rfl rfl ?_
  have K : Keep [c, cb] h h := Keep.refl _ _
  refine tr_seq ?_
  refine tr_reg ?_
  refine rs_v (v_move rfl) rfl ?_
  refine rs_v (v_nilCheck_ptr rfl) rfl ?_
  refine rs_v (v_fieldAddr fa_keyspan_DefragmentingIter_0 rfl) rfl ?_
  refine rs_v (v_load one_p_keyspan_DefragmentingBuffers rfl (by exact Bc.cell _ rfl)) rfl ?_
  refine rs_v (v_nilCheck_ptr rfl) rfl ?_
  refine rs_v (v_fieldAddr fa_keyspan_DefragmentingBuffers_0 rfl) rfl ?_
  refine rs_v (v_load one_bytealloc_A rfl (by exact Bb.cell _ rfl)) rfl ?_
  refine rs_w (w_call (vs := [_]) ok_bytealloc_A_Reset rfl ⟨rfl, trivial⟩ (c_Reset χ _ xa na ca)) rfl ?_
  rintro _ h1 ⟨rfl, hsame⟩; have hsame := hsame.symm; subst hsame
  refine rs_nil ?_
  refine q_thn ?_
  refine tr_seq ?_
  refine tr_draw [(true, 12), (false, 3)] _ (by kernel_rfl) (by kernel_rfl) (by kernel_rfl) ?_
  refine rx_any Same same_pre ?_
  refine rq_v (v_move rfl) ?_
  refine rq_v (v_nilCheck_ptr rfl) ?_
  refine rq_v (v_fieldAddr fa_keyspan_DefragmentingIter_0 rfl) ?_
  refine rq_v (v_load one_p_keyspan_DefragmentingBuffers rfl (by exact Bc.cell _ rfl)) ?_
  refine rq_v (v_move rfl) ?_
  refine rq_v (v_nilCheck_ptr rfl) ?_
  refine rq_v (v_fieldAddr fa_keyspan_DefragmentingIter_0 rfl) ?_
  refine rq_v (v_load one_p_keyspan_DefragmentingBuffers rfl (by exact Bc.cell _ rfl)) ?_
  refine rq_v (v_nilCheck_ptr rfl) ?_
  refine rq_v (v_fieldAddr fa_keyspan_DefragmentingBuffers_1 rfl) ?_
  refine rq_v (v_load one_sl_keyspan_Key rfl (by exact Bb.cell _ rfl)) ?_
  refine rq_v (v_slice_h (i := 0) u_sl_keyspan_Key siz_keyspan_Key rfl rfl rfl (Nat.zero_le _)) ?_
  refine rm_end ?_; intro ha2 Ka2; simp only [endM, hypF, ofE, argE, List.nil_append]
  have Ka2 : h = ha2 := Eq.symm Ka2
  subst Ka2
  refine rx_seq ?_
  refine rs_v (v_nilCheck_ptr rfl) rfl ?_
  refine rs_v (v_fieldAddr fa_keyspan_DefragmentingBuffers_1 rfl) rfl ?_
  refine rs_w0 (w_put siz_sl_keyspan_Key rfl rfl rfl rfl Bb rfl) ?_
  rintro _ h3 ⟨B3, K3⟩
  have Bc := K3.blk (by simp; omega) Bc
  have Bb := B3; have K := K.new1 K3 (by first | (right; omega) | (left; simp; done)); have Z3 := K3.1
  refine rs_nil ?_
  refine q_con ?_
  refine rx_nil ?_
  refine q_thn ?_
  refine tr_seq ?_
  refine tr_draw [(true, 12), (false, 3)] _ (by kernel_rfl) (by kernel_rfl) (by kernel_rfl) ?_
  refine rx_any Same same_pre ?_
  refine rq_v (v_move rfl) ?_
  refine rq_v (v_nilCheck_ptr rfl) ?_
  refine rq_v (v_fieldAddr fa_keyspan_DefragmentingIter_0 rfl) ?_
  refine rq_v (v_load one_p_keyspan_DefragmentingBuffers rfl (by exact Bc.cell _ rfl)) ?_
  refine rq_v (v_move rfl) ?_
  refine rq_v (v_nilCheck_ptr rfl) ?_
  refine rq_v (v_fieldAddr fa_keyspan_DefragmentingIter_0 rfl) ?_
  refine rq_v (v_load one_p_keyspan_DefragmentingBuffers rfl (by exact Bc.cell _ rfl)) ?_
  refine rq_v (v_nilCheck_ptr rfl) ?_
  refine rq_v (v_fieldAddr fa_keyspan_DefragmentingBuffers_2 rfl) ?_
  refine rq_v (v_load one_sl_uint8 rfl (by exact Bb.cell _ rfl)) ?_
  refine rq_v (v_slice_h (i := 0) u_sl_uint8 siz_uint8 rfl rfl rfl (Nat.zero_le _)) ?_
  refine rm_end ?_; intro ha4 Ka4; simp only [endM, hypF, ofE, argE, List.nil_append]
  have Ka4 : h3 = ha4 := Eq.symm Ka4
  subst Ka4
  refine rx_seq ?_
  refine rs_v (v_nilCheck_ptr rfl) rfl ?_
  refine rs_v (v_fieldAddr fa_keyspan_DefragmentingBuffers_2 rfl) rfl ?_
  refine rs_w0 (w_put siz_sl_uint8 rfl rfl rfl rfl Bb rfl) ?_
  rintro _ h5 ⟨B5, K5⟩
  have Bc := K5.blk (by simp; omega) Bc
  have Bb := B5; have K := K.new1 K5 (by first | (right; omega) | (left; simp; done)); have Z5 := K5.1
  refine rs_nil ?_
  refine q_con ?_
  refine rx_nil ?_
  refine q_thn ?_
  refine tr_seq ?_
  refine tr_seq ?_
  refine tr_reg ?_
  refine rs_v (v_move rfl) rfl ?_
  refine rs_v (v_nilCheck_ptr rfl) rfl ?_
  refine rs_v (v_fieldAddr fa_keyspan_DefragmentingIter_4 rfl) rfl ?_
  refine rs_v (v_load one_p_keyspan_Span rfl (by exact Bc.cell _ rfl)) rfl ?_
  refine rs_v (v_peq u_p_keyspan_Span rfl rfl) rfl ?_
  refine rs_nil ?_
  refine q_thn ?_
  refine tr_if_f rfl ?_
  refine tr_skip ?_
  refine q_thn ?_
  refine tr_seq ?_
  have hz5 := K.1
  have hXk : ∀ x, x ∈ (Value.slice ak nk ck).ownBlock.toList → x ∉ [c, cb] := fun x hx hm => by
    have := hd.k1 x hx
    simp only [List.mem_cons, List.not_mem_nil, or_false] at hm
    rcases hm with e | e
    · exact this.1 e
    · exact this.2.1 e
  have Ok5 : Own h5 0 keyT 3 (Value.slice ak 0 ck) 0 [] := Own.cut0 (Ok.keep2 K hXk)
  have ha5 : Aren h5 (Value.slice xa na ca) := ha.keep K (fun x hx hm => by
    have := hd.a1 x hx
    simp only [List.mem_cons, List.not_mem_nil, or_false] at hm
    rcases hm with e | e
    · exact this.1 e
    · exact this.2.1 e)
  have Bb5 : Blk h5 cb [(Value.slice xa na ca), (Value.slice ak 0 ck), (Value.slice ab 0 cb2)] bufT := Bb
  have hFn : ∀ b, Fin b → b < h.size ∧ b ∉ [c, cb] := fun b hb => ⟨hlow b hb, fun hm => by
    simp only [List.mem_cons, List.not_mem_nil, or_false] at hm
    rcases hm with e | e
    · subst e; exact hd.fc hb
    · subst e; exact hd.fb hb⟩
  obtain ⟨ss, se, sk, _, hcs, hr1, hr2, hr3⟩ := hps.stab hbi (K.stab hFn)
  have hb5 : cb < h5.size := by omega
  have ha0 : ∀ x, x ∈ (Value.slice xa na ca).ownBlock.toList → x ≠ cb ∧ x ∉ (Value.slice ak 0 ck).ownBlock.toList := fun x hx => ⟨(hd.a1 x hx).2.1, fun hm => (hd.k1 x (mem_cut hm)).2.2.2 hx⟩
  have hk0 : ∀ x, x ∈ (Value.slice ak 0 ck).ownBlock.toList → x < h5.size := fun x hx => by have := (own_ne Ok x (mem_cut hx)).2; omega
  have at5 : ∀ h', SvS [cb] cb (Value.slice ak 0 ck) (Value.slice ab 0 cb2) h5 h' → ∃ a', Blk h' cb [a', (Value.slice ak 0 ck), (Value.slice ab 0 cb2)] bufT ∧ Aren h' a' ∧ Tn [cb] h5 h' (Value.slice xa na ca) a' ∧ c ∉ a'.ownBlock.toList ∧ cb ∉ a'.ownBlock.toList := fun h' hk => by
    obtain ⟨a', B', ha', T⟩ := hk.2 _ Bb5 ha5
    refine ⟨a', B', ha', T, fun hm => ?_, fun hm => ?_⟩
    · rcases T.own c hm with e | e
      · exact (hd.a1 c e).1 rfl
      · omega
    · rcases T.own cb hm with e | e
      · exact (hd.a1 cb e).2.1 rfl
      · omega
  have hcC : ∀ h', SvS [cb] cb (Value.slice ak 0 ck) (Value.slice ab 0 cb2) h5 h' → Blk h' c (dL cb cm eq it (.pointer (some ⟨bi, oi, none⟩)) z sv ev kv mt rd) dfT := fun h' hk => by
    obtain ⟨a', B', ha', T, _⟩ := at5 h' hk
    exact (T.blk c (by omega) (by simpa using hne) (fun hm => (hd.a1 c hm).1 rfl)).trans Bc
  have hfF : ∀ h', SvS [cb] cb (Value.slice ak 0 ck) (Value.slice ab 0 cb2) h5 h' → Stab Fin h5 h' := fun h' hk b hb => by
    obtain ⟨a', B', ha', T, _⟩ := at5 h' hk
    exact T.blk b (by have := hlow b hb; omega) (fun hm => hd.fb (by rw [List.mem_singleton] at hm; subst hm; exact hb)) (fun hm => (hd.a1 b hm).2.2 hb)
  have hX5 : ∀ x, x ∈ [cb] → x = cb ∨ x ∈ (Value.slice ak 0 ck).ownBlock.toList := fun x hx => .inl (by simpa using hx)
  refine tr_draw [(true, 27), (false, 3)] _ (by kernel_rfl) (by kernel_rfl) (by kernel_rfl) ?_
  refine rx_any (SvS [cb] cb (Value.slice ak 0 ck) (Value.slice ab 0 cb2)) (svs_pre _ _ _ _) ?_
  refine rm_v (svs_pre _ _ _ _) (fun h' hk => v_move rfl) ?_
  refine rm_v (svs_pre _ _ _ _) (fun h' hk => v_move rfl) ?_
  refine rm_v (svs_pre _ _ _ _) (fun h' hk => v_move rfl) ?_
  refine rm_v (svs_pre _ _ _ _) (fun h' hk => v_nilCheck_ptr rfl) ?_
  refine rm_v (svs_pre _ _ _ _) (fun h' hk => v_fieldAddr fa_keyspan_DefragmentingIter_4 rfl) ?_
  refine rm_v (svs_pre _ _ _ _) (fun h' hk => v_load one_p_keyspan_Span rfl ((hcC h' hk).cell _ rfl)) ?_
  refine rm_v (svs_pre _ _ _ _) (fun h' hk => v_nilCheck_ptr rfl) ?_
  refine rm_v (svs_pre _ _ _ _) (fun h' hk => v_fieldAddr fa_keyspan_Span_0 rfl) ?_
  refine rm_v (svs_pre _ _ _ _) (fun h' hk => v_load one_sl_uint8 rfl (((hfF h' hk).cells hbi hcs).at 0 rfl)) ?_
  refine rm_w (SvV h5 (Value.slice xa na ca) cb (Value.slice ak 0 ck) (Value.slice ab 0 cb2) s.s) (fun v _ _ _ k2 hr => hr.step k2 hX5) (fun h' hk => by
    obtain ⟨a', B', ha', T, hca, hcba⟩ := at5 h' hk
    exact OpW.mono (w_call (vs := [_, _]) ok_keyspan_DefragmentingIter_saveBytes rfl ⟨rfl, rfl, trivial⟩ (c_saveBytes χ h' c cb _ a' (Value.slice ak 0 ck) (Value.slice ab 0 cb2) Fin _ s.s (hcC h' hk) B' ha' hca hcba (hr1.stab (hfF h' hk)) hsm.1)) (fun v h'' hp => ⟨save_svs B' hp, save_svv T hb5 ha0 hk0 hp⟩)) ?_
  refine rm_v (svs_pre _ _ _ _) (fun h' hk => v_move rfl) ?_
  refine rm_v (svs_pre _ _ _ _) (fun h' hk => v_move rfl) ?_
  refine rm_v (svs_pre _ _ _ _) (fun h' hk => v_nilCheck_ptr rfl) ?_
  refine rm_v (svs_pre _ _ _ _) (fun h' hk => v_fieldAddr fa_keyspan_DefragmentingIter_4 rfl) ?_
  refine rm_v (svs_pre _ _ _ _) (fun h' hk => v_load one_p_keyspan_Span rfl ((hcC h' hk).cell _ rfl)) ?_
  refine rm_v (svs_pre _ _ _ _) (fun h' hk => v_nilCheck_ptr rfl) ?_
  refine rm_v (svs_pre _ _ _ _) (fun h' hk => v_fieldAddr fa_keyspan_Span_1 rfl) ?_
  refine rm_v (svs_pre _ _ _ _) (fun h' hk => v_load one_sl_uint8 rfl (((hfF h' hk).cells hbi hcs).at 1 rfl)) ?_
  refine rm_w (SvV h5 (Value.slice xa na ca) cb (Value.slice ak 0 ck) (Value.slice ab 0 cb2) s.e) (fun v _ _ _ k2 hr => hr.step k2 hX5) (fun h' hk => by
    obtain ⟨a', B', ha', T, hca, hcba⟩ := at5 h' hk
    exact OpW.mono (w_call (vs := [_, _]) ok_keyspan_DefragmentingIter_saveBytes rfl ⟨rfl, rfl, trivial⟩ (c_saveBytes χ h' c cb _ a' (Value.slice ak 0 ck) (Value.slice ab 0 cb2) Fin _ s.e (hcC h' hk) B' ha' hca hcba (hr2.stab (hfF h' hk)) hsm.2.1)) (fun v h'' hp => ⟨save_svs B' hp, save_svv T hb5 ha0 hk0 hp⟩)) ?_
  refine rm_v (svs_pre _ _ _ _) (fun h' hk => v_move rfl) ?_
  refine rm_v (svs_pre _ _ _ _) (fun h' hk => v_nilCheck_ptr rfl) ?_
  refine rm_v (svs_pre _ _ _ _) (fun h' hk => v_fieldAddr fa_keyspan_DefragmentingIter_4 rfl) ?_
  refine rm_v (svs_pre _ _ _ _) (fun h' hk => v_load one_p_keyspan_Span rfl ((hcC h' hk).cell _ rfl)) ?_
  refine rm_v (svs_pre _ _ _ _) (fun h' hk => v_nilCheck_ptr rfl) ?_
  refine rm_v (svs_pre _ _ _ _) (fun h' hk => v_fieldAddr fa_keyspan_Span_3 rfl) ?_
  refine rm_v (svs_pre _ _ _ _) (fun h' hk => v_load one_keyspan_KeysOrder rfl (((hfF h' hk).cells hbi hcs).at 3 rfl)) ?_
  refine rm_o2 53 62 (fun v h' => ∃ v1 v2, v = .agg #[v1, v2, .slice none 0 0, .int .i8 0] ∧ SvV h5 (Value.slice xa na ca) cb (Value.slice ak 0 ck) (Value.slice ab 0 cb2) s.s v1 h' ∧ SvV h5 (Value.slice xa na ca) cb (Value.slice ak 0 ck) (Value.slice ab 0 cb2) s.e v2 h') rfl rfl rfl (by kernel_rfl) (by kernel_rfl)
    (fun v _ _ _ k2 hr => by obtain ⟨v1, v2, e, q1, q2⟩ := hr; exact ⟨v1, v2, e, q1.step k2 hX5, q2.step k2 hX5⟩)
    (fun u u2 h' hk hu hu2 => by
      obtain ⟨x1, n1, c1, rfl⟩ := hu.form
      obtain ⟨x2, n2, c2, rfl⟩ := hu2.form
      exact (v_build3 rfl rfl rfl (bld_keyspan_Span_0_1_3 _ _ _ _ _ _ _)).w.mono (fun _ _ e => by obtain ⟨e1, e2⟩ := e; subst e1; subst e2; exact ⟨(svs_pre _ _ _ _).refl _, _, _, rfl, hu, hu2⟩)) ?_
  refine rm_end ?_; intro ha9 Ka9; simp only [endM, hypF, ofE, argE, List.nil_append]
  intro v26 hv26 v18 _ v9 _
  obtain ⟨v1, v2, rfl, q1, q2⟩ := hv26
  obtain ⟨x1, n1, c1, rfl⟩ := q1.form
  obtain ⟨x2, n2, c2, rfl⟩ := q2.form
  refine rx_seq ?_
  refine rs_v (v_nilCheck_ptr rfl) rfl ?_
  refine rs_v (v_fieldAddr fa_keyspan_DefragmentingIter_6 rfl) rfl ?_
  refine rs_w0 (w_put siz_keyspan_Span rfl rfl rfl rfl (hcC ha9 Ka9) rfl) ?_
  rintro _ h6 ⟨B6, K6⟩
  obtain ⟨a1, G1, i0⟩ := SvI.start hd hcl hbl (k0 := (Value.slice ak nk ck)) (kv := (Value.slice ak 0 ck)) own_cut K ha5 Bb5 Ok5 Ka9 q1 q2 K6 B6
  have Bc := i0.bc
  have Bb := i0.bb
  have hcs6 := (K6.stab (A := Fin) (fun b hb => ⟨by have := hlow b hb; have := Ka9.1; omega, fun hm => hd.fc (by rw [List.mem_singleton] at hm; subst hm; exact hb)⟩)).cells hbi ((hfF ha9 Ka9).cells hbi hcs)
  obtain ⟨ka, kc, rfl⟩ := SlR.form2 hr3
  refine rs_nil ?_
  refine q_con ?_
  refine rx_nil ?_
  refine q_thn ?_
  refine tr_seq ?_
  refine tr_seq ?_
  refine tr_reg ?_
  refine rs_v (v_move rfl) rfl ?_
  refine rs_v (v_nilCheck_ptr rfl) rfl ?_
  refine rs_v (v_fieldAddr fa_keyspan_DefragmentingIter_4 rfl) rfl ?_
  refine rs_v (v_load one_p_keyspan_Span rfl (by exact Bc.cell _ rfl)) rfl ?_
  refine rs_v (v_nilCheck_ptr rfl) rfl ?_
  refine rs_v (v_fieldAddr fa_keyspan_Span_2 rfl) rfl ?_
  refine rs_v (v_load one_sl_keyspan_Key rfl (by exact hcs6.at 2 rfl)) rfl ?_
  refine rs_v (v_len u_sl_keyspan_Key rfl) rfl ?_
  refine rs_v (v_move rfl) rfl ?_
  refine rs_nil ?_
  refine q_thn ?_
  refine tr_block ?_
  refine tr_loop (fun m E h' => ∃ k a1 k1 xs G, k ≤ s.ks.length ∧ m = s.ks.length - k ∧ E = [(0, .pointer (some ⟨c, 0, none⟩)), (80, .int .i64 (s.ks.length : Int)), (81, .int .i64 (k : Int))] ∧ SvI c cb (Value.slice xa na ca) (Value.slice ak nk ck) (Value.slice ab 0 cb2) (dL cb cm eq it (.pointer (some ⟨bi, oi, none⟩)) z (.slice x1 n1 c1) (.slice x2 n2 c2) (.slice none 0 0) mt rd) h s (.slice x1 n1 c1) (.slice x2 n2 c2) k a1 k1 xs G h') s.ks.length [(0, _), (80, _), (81, _)] ⟨rfl, rfl, rfl, trivial⟩ ⟨0, _, _, _, _, Nat.zero_le _, rfl, rfl, i0⟩ ?_
  rintro m E hL7 ⟨k, a1, k1, xs, G, hk, rfl, rfl, i⟩
  obtain ⟨ak1, ck1, rfl⟩ := Own.form3 i.ow
  have Bc := i.bc
  have Bb := i.bb
  have K := i.kp
  have hzL := i.kp.1
  refine tr_seq ?_
  refine tr_reg ?_
  refine rs_v (v_lt rfl rfl) rfl ?_
  refine rs_nil ?_
  refine q_thn ?_
  refine tr_seq ?_
  refine tr_ifn rfl (fun hif => ?_) (fun hif => ?_)
  · -- no
    simp only [decide_eq_true_eq, decide_eq_false_iff_not] at hif
    have hkk : k = s.ks.length := by omega
    subst hkk
    refine tr_exit ?_
    refine q_thn_exit ?_
    refine q_lp_exit ?_
    refine q_blk_hit ?_
    refine q_thn ?_
    refine tr_reg ?_
    refine rs_v (v_move rfl) rfl ?_
    refine rs_v (v_move rfl) rfl ?_
    refine rs_v (v_nilCheck_ptr rfl) rfl ?_
    refine rs_v (v_fieldAddr fa_keyspan_DefragmentingIter_0 rfl) rfl ?_
    refine rs_v (v_load one_p_keyspan_DefragmentingBuffers rfl (by exact Bc.cell _ rfl)) rfl ?_
    refine rs_v (v_nilCheck_ptr rfl) rfl ?_
    refine rs_v (v_fieldAddr fa_keyspan_DefragmentingBuffers_1 rfl) rfl ?_
    refine rs_v (v_load one_sl_keyspan_Key rfl (by exact Bb.cell _ rfl)) rfl ?_
    refine rs_v (v_nilCheck_ptr rfl) rfl ?_
    refine rs_v (v_fieldAddr fa_keyspan_DefragmentingIter_6 rfl) rfl ?_
    refine rs_v (v_fieldAddr fa_keyspan_Span_2 rfl) rfl ?_
    refine rs_w0 (w_put siz_sl_keyspan_Key rfl rfl rfl rfl Bc rfl) ?_
    rintro _ h8 ⟨B8, K8⟩
    have Bb := K8.blk (by simp; omega) Bb
    have Bc := B8; have K := K.new1 K8 (by first | (right; omega) | (left; simp; done)); have Z8 := K8.1
    refine rs_nil ?_
    refine q_end (res_none rfl) ?_
    have i9 := i.putC (cells' := (dL cb cm eq it (.pointer (some ⟨bi, oi, none⟩)) z (.slice x1 n1 c1) (.slice x2 n2 c2) (.slice ak1 s.ks.length ck1) mt rd)) hd2 hcl hbl K8 Bc
    refine ⟨rfl, _, _, _, _, _, _, i9, (Own.cut0 Ob).keep2 i9.kp (fun x hx hm => ?_)⟩
    have := hd2.b1 x hx
    simp only [List.mem_cons, List.mem_append] at hm
    rcases hm with e | e | e | e
    · exact this.1 e
    · exact this.2.1 e
    · exact this.2.2.2.1 e
    · exact this.2.2.2.2 e
  -- yes
  simp only [decide_eq_true_eq, decide_eq_false_iff_not] at hif
  refine tr_skip ?_
  refine q_thn ?_
  refine tr_seq ?_
  refine tr_block ?_
  refine tr_seq ?_
  refine tr_reg ?_
  refine rs_v (v_move rfl) rfl ?_
  refine rs_v (v_assign rfl) rfl ?_
  refine rs_nil ?_
  refine q_thn ?_
  have hFn : ∀ b, Fin b → b < h.size ∧ b ∉ c :: cb :: ((Value.slice xa na ca).ownBlock.toList ++ (Value.slice ak nk ck).ownBlock.toList) := fun b hb => ⟨hlow b hb, fun hm => by
    simp only [List.mem_cons, List.mem_append] at hm
    rcases hm with e | e | e | e
    · subst e; exact hd.fc hb
    · subst e; exact hd.fb hb
    · exact (hd.a1 b e).2.2 hb
    · exact (hd.k1 b e).2.2.1 hb⟩
  obtain ⟨ss8, se8, sk8, _, hcs, hq1, hq2, hq3⟩ := hps.stab hbi (i.kp.stab hFn)
  obtain ⟨ka8, kc8, rfl⟩ := SlR.form2 hq3
  obtain ⟨kb8, ko8, key, ksv8, kvv8, rfl, hkey, hkc, hkF, hr1k, hr2k⟩ := key_get hq3 (k := k) (by omega)
  have hnk := hsm.2.2.1
  have hsk := hsm.2.2.2 key (List.mem_of_getElem? hkey)
  have hb8 : cb < hL7.size := by omega
  have hane := i.ane hd2 hcl hbl
  have hkne := i.kne hd2 hcl hbl
  have ha8 : ∀ x, x ∈ a1.ownBlock.toList → x ≠ cb ∧ x ∉ (Value.slice ak1 k ck1).ownBlock.toList := fun x hx => ⟨(hane x hx).2, fun hm => (i.ko x hm).2 hx⟩
  have hk8 : ∀ x, x ∈ (Value.slice ak1 k ck1).ownBlock.toList → x < hL7.size := fun x hx => (own_ne i.ow x hx).2
  have at8 : ∀ h', (SvS (cb :: (Value.slice ak1 k ck1).ownBlock.toList) cb (Value.slice ak1 k ck1) (Value.slice ab 0 cb2)) hL7 h' → ∃ a', Blk h' cb [a', (Value.slice ak1 k ck1), (Value.slice ab 0 cb2)] bufT ∧ Aren h' a' ∧ Tn (cb :: (Value.slice ak1 k ck1).ownBlock.toList) hL7 h' a1 a' ∧ c ∉ a'.ownBlock.toList ∧ cb ∉ a'.ownBlock.toList := fun h' hk => by
    obtain ⟨a', B', ha', T⟩ := hk.2 _ i.bb i.ar
    refine ⟨a', B', ha', T, fun hm => ?_, fun hm => ?_⟩
    · rcases T.own c hm with e | e
      · exact (hane c e).1 rfl
      · omega
    · rcases T.own cb hm with e | e
      · exact (hane cb e).2 rfl
      · omega
  have hcC : ∀ h', (SvS (cb :: (Value.slice ak1 k ck1).ownBlock.toList) cb (Value.slice ak1 k ck1) (Value.slice ab 0 cb2)) hL7 h' → Blk h' c (dL cb cm eq it (.pointer (some ⟨bi, oi, none⟩)) z (.slice x1 n1 c1) (.slice x2 n2 c2) (.slice none 0 0) mt rd) dfT := fun h' hk => by
    obtain ⟨a', B', ha', T, _⟩ := at8 h' hk
    refine (T.blk c (by omega) (fun hm => ?_) (fun hm => (hane c hm).1 rfl)).trans Bc
    rcases List.mem_cons.1 hm with e | e
    · exact hne e
    · exact (hkne c e).1 rfl
  have hFk : ∀ b, Fin b → b ∉ (Value.slice ak1 k ck1).ownBlock.toList := fun b hb hm => by
    rcases (i.ko b hm).1 with e | e
    · exact (hd.k1 b e).2.2.1 hb
    · have := hlow b hb; omega
  have hFa : ∀ b, Fin b → b ∉ a1.ownBlock.toList := fun b hb hm => by
    rcases i.ao b hm with e | e
    · exact (hd.a1 b e).2.2 hb
    · have := hlow b hb; omega
  have hfF : ∀ h', (SvS (cb :: (Value.slice ak1 k ck1).ownBlock.toList) cb (Value.slice ak1 k ck1) (Value.slice ab 0 cb2)) hL7 h' → Stab Fin hL7 h' := fun h' hk b hb => by
    obtain ⟨a', B', ha', T, _⟩ := at8 h' hk
    refine T.blk b (by have := hlow b hb; omega) (fun hm => ?_) (hFa b hb)
    rcases List.mem_cons.1 hm with e | e
    · subst e; exact hd.fb hb
    · exact hFk b hb e
  have hX8 : ∀ x, x ∈ cb :: (Value.slice ak1 k ck1).ownBlock.toList → x = cb ∨ x ∈ (Value.slice ak1 k ck1).ownBlock.toList := fun x hx => List.mem_cons.1 hx
  refine tr_draw [(true, 51), (false, 3)] _ (by kernel_rfl) (by kernel_rfl) (by kernel_rfl) ?_
  refine rx_big (SvS [cb] cb (Value.slice ak1 k ck1) (Value.slice ab 0 cb2)) (SvS (cb :: (Value.slice ak1 k ck1).ownBlock.toList) cb (Value.slice ak1 k ck1) (Value.slice ab 0 cb2)) (svs_pre _ _ _ _) (svs_pre _ _ _ _) (fun _ _ k => k.more (by simp)) ?_
  refine rb_v (svs_pre _ _ _ _) (fun h' hk => v_move rfl) ?_
  refine rb_v (svs_pre _ _ _ _) (fun h' hk => v_nilCheck_ptr rfl) ?_
  refine rb_v (svs_pre _ _ _ _) (fun h' hk => v_fieldAddr fa_keyspan_DefragmentingIter_0 rfl) ?_
  refine rb_v (svs_pre _ _ _ _) (fun h' hk => v_load one_p_keyspan_DefragmentingBuffers rfl ((hcC h' hk).cell _ rfl)) ?_
  refine rb_v (svs_pre _ _ _ _) (fun h' hk => v_move rfl) ?_
  refine rb_v (svs_pre _ _ _ _) (fun h' hk => v_nilCheck_ptr rfl) ?_
  refine rb_v (svs_pre _ _ _ _) (fun h' hk => v_fieldAddr fa_keyspan_DefragmentingIter_0 rfl) ?_
  refine rb_v (svs_pre _ _ _ _) (fun h' hk => v_load one_p_keyspan_DefragmentingBuffers rfl ((hcC h' hk).cell _ rfl)) ?_
  refine rb_v (svs_pre _ _ _ _) (fun h' hk => v_nilCheck_ptr rfl) ?_
  refine rb_v (svs_pre _ _ _ _) (fun h' hk => v_fieldAddr fa_keyspan_DefragmentingBuffers_1 rfl) ?_
  refine rb_v (svs_pre _ _ _ _) (fun h' hk => v_load (v := (Value.slice ak1 k ck1)) one_sl_keyspan_Key rfl (by obtain ⟨a', B', _⟩ := at8 h' hk; exact B'.cell _ rfl)) ?_
  refine rb_v (svs_pre _ _ _ _) (fun h' hk => v_move rfl) ?_
  refine rb_v (svs_pre _ _ _ _) (fun h' hk => v_nilCheck_ptr rfl) ?_
  refine rb_v (svs_pre _ _ _ _) (fun h' hk => v_fieldAddr fa_keyspan_DefragmentingIter_4 rfl) ?_
  refine rb_v (svs_pre _ _ _ _) (fun h' hk => v_load one_p_keyspan_Span rfl ((hcC h' hk).cell _ rfl)) ?_
  refine rb_v (svs_pre _ _ _ _) (fun h' hk => v_nilCheck_ptr rfl) ?_
  refine rb_v (svs_pre _ _ _ _) (fun h' hk => v_fieldAddr fa_keyspan_Span_2 rfl) ?_
  refine rb_v (svs_pre _ _ _ _) (fun h' hk => v_load one_sl_keyspan_Key rfl (((hfF h' hk).cells hbi hcs).at 2 rfl)) ?_
  refine rb_v (svs_pre _ _ _ _) (fun h' hk => v_move rfl) ?_
  refine rb_v (svs_pre _ _ _ _) (fun h' hk => v_indexAddrN u_sl_keyspan_Key siz_keyspan_Key rfl rfl (by omega)) ?_
  refine rb_v (svs_pre _ _ _ _) (fun h' hk => v_fieldAddr fa_keyspan_Key_0 rfl) ?_
  refine rb_v (svs_pre _ _ _ _) (fun h' hk => v_load one_uint64 rfl (((hfF h' hk).cells hkF hkc).at 0 rfl)) ?_
  refine rb_v (svs_pre _ _ _ _) (fun h' hk => v_move rfl) ?_
  refine rb_v (svs_pre _ _ _ _) (fun h' hk => v_move rfl) ?_
  refine rb_v (svs_pre _ _ _ _) (fun h' hk => v_nilCheck_ptr rfl) ?_
  refine rb_v (svs_pre _ _ _ _) (fun h' hk => v_fieldAddr fa_keyspan_DefragmentingIter_4 rfl) ?_
  refine rb_v (svs_pre _ _ _ _) (fun h' hk => v_load one_p_keyspan_Span rfl ((hcC h' hk).cell _ rfl)) ?_
  refine rb_v (svs_pre _ _ _ _) (fun h' hk => v_nilCheck_ptr rfl) ?_
  refine rb_v (svs_pre _ _ _ _) (fun h' hk => v_fieldAddr fa_keyspan_Span_2 rfl) ?_
  refine rb_v (svs_pre _ _ _ _) (fun h' hk => v_load one_sl_keyspan_Key rfl (((hfF h' hk).cells hbi hcs).at 2 rfl)) ?_
  refine rb_v (svs_pre _ _ _ _) (fun h' hk => v_move rfl) ?_
  refine rb_v (svs_pre _ _ _ _) (fun h' hk => v_indexAddrN u_sl_keyspan_Key siz_keyspan_Key rfl rfl (by omega)) ?_
  refine rb_v (svs_pre _ _ _ _) (fun h' hk => v_fieldAddr fa_keyspan_Key_1 rfl) ?_
  refine rb_v (svs_pre _ _ _ _) (fun h' hk => v_load one_sl_uint8 rfl (((hfF h' hk).cells hkF hkc).at 1 rfl)) ?_
  refine rb_w (SvV hL7 a1 cb (Value.slice ak1 k ck1) (Value.slice ab 0 cb2) key.suf) (fun v _ _ _ k2 hr => hr.step k2 hX8) (fun h' hk => by
    obtain ⟨a', B', ha', T, hca, hcba⟩ := at8 h' hk
    exact OpW.mono (w_call (vs := [_, _]) ok_keyspan_DefragmentingIter_saveBytes rfl ⟨rfl, rfl, trivial⟩ (c_saveBytes χ h' c cb _ a' (Value.slice ak1 k ck1) (Value.slice ab 0 cb2) Fin _ key.suf (hcC h' hk) B' ha' hca hcba (hr1k.stab (hfF h' hk)) hsk.1)) (fun v h'' hp => ⟨save_svs B' hp, save_svv T hb8 ha8 hk8 hp⟩)) ?_
  refine rb_v (svs_pre _ _ _ _) (fun h' hk => v_move rfl) ?_
  refine rb_v (svs_pre _ _ _ _) (fun h' hk => v_move rfl) ?_
  refine rb_v (svs_pre _ _ _ _) (fun h' hk => v_nilCheck_ptr rfl) ?_
  refine rb_v (svs_pre _ _ _ _) (fun h' hk => v_fieldAddr fa_keyspan_DefragmentingIter_4 rfl) ?_
  refine rb_v (svs_pre _ _ _ _) (fun h' hk => v_load one_p_keyspan_Span rfl ((hcC h' hk).cell _ rfl)) ?_
  refine rb_v (svs_pre _ _ _ _) (fun h' hk => v_nilCheck_ptr rfl) ?_
  refine rb_v (svs_pre _ _ _ _) (fun h' hk => v_fieldAddr fa_keyspan_Span_2 rfl) ?_
  refine rb_v (svs_pre _ _ _ _) (fun h' hk => v_load one_sl_keyspan_Key rfl (((hfF h' hk).cells hbi hcs).at 2 rfl)) ?_
  refine rb_v (svs_pre _ _ _ _) (fun h' hk => v_move rfl) ?_
  refine rb_v (svs_pre _ _ _ _) (fun h' hk => v_indexAddrN u_sl_keyspan_Key siz_keyspan_Key rfl rfl (by omega)) ?_
  refine rb_v (svs_pre _ _ _ _) (fun h' hk => v_fieldAddr fa_keyspan_Key_2 rfl) ?_
  refine rb_v (svs_pre _ _ _ _) (fun h' hk => v_load one_sl_uint8 rfl (((hfF h' hk).cells hkF hkc).at 2 rfl)) ?_
  refine rb_w (SvV hL7 a1 cb (Value.slice ak1 k ck1) (Value.slice ab 0 cb2) key.val) (fun v _ _ _ k2 hr => hr.step k2 hX8) (fun h' hk => by
    obtain ⟨a', B', ha', T, hca, hcba⟩ := at8 h' hk
    exact OpW.mono (w_call (vs := [_, _]) ok_keyspan_DefragmentingIter_saveBytes rfl ⟨rfl, rfl, trivial⟩ (c_saveBytes χ h' c cb _ a' (Value.slice ak1 k ck1) (Value.slice ab 0 cb2) Fin _ key.val (hcC h' hk) B' ha' hca hcba (hr2k.stab (hfF h' hk)) hsk.2)) (fun v h'' hp => ⟨save_svs B' hp, save_svv T hb8 ha8 hk8 hp⟩)) ?_
  refine rb_o2 118 131 (fun v h' => ∃ v1 v2, v = .agg #[.int .u64 key.tr, v1, v2] ∧ SvV hL7 a1 cb (Value.slice ak1 k ck1) (Value.slice ab 0 cb2) key.suf v1 h' ∧ SvV hL7 a1 cb (Value.slice ak1 k ck1) (Value.slice ab 0 cb2) key.val v2 h') rfl rfl rfl (by kernel_rfl) (by kernel_rfl)
    (fun v _ _ _ k2 hr => by obtain ⟨v1, v2, e, q1, q2⟩ := hr; exact ⟨v1, v2, e, q1.step k2 hX8, q2.step k2 hX8⟩)
    (fun u u2 h' hk hu hu2 => by
      obtain ⟨y1, m1, d1, rfl⟩ := hu.form
      obtain ⟨y2, m2, d2, rfl⟩ := hu2.form
      exact (v_build3 rfl rfl rfl (bld_keyspan_Key_0_1_2 _ _ _ _ _ _ _)).w.mono (fun _ _ e => by obtain ⟨e1, e2⟩ := e; subst e1; subst e2; exact ⟨(svs_pre _ _ _ _).refl _, _, _, rfl, hu, hu2⟩)) ?_
  refine rb_o 132 (NewK hL7 a1 cb (Value.slice ak1 k ck1) (Value.slice ab 0 cb2) key) rfl (by kernel_rfl) (fun v _ _ _ k2 hr => hr.step k2 hX8 hb8 hk8)
    (fun u h' hk hu => by
      obtain ⟨w1, w2, rfl, p1, p2⟩ := hu
      obtain ⟨a', B', ha', T, _⟩ := at8 h' hk
      exact OpW.mono (w_new1 u_sl_keyspan_Key siz_keyspan_Key zero_keyspan_Key rfl rfl rfl rfl rfl) (fun v h'' hv => by
        obtain ⟨rfl, Bn, Kn, _⟩ := hv
        have Sn : SvS [cb] cb (Value.slice ak1 k ck1) (Value.slice ab 0 cb2) h' h'' := svs_new Kn
        exact ⟨Sn, _, w1, w2, a', rfl, Bn, Kn.blk (by simp) B', ha'.keep Kn (by simp), hk.1, (fun hm => by have := ha'.low _ hm; omega), p1.step Sn (fun x hx => .inl (by simpa using hx)), p2.step Sn (fun x hx => .inl (by simpa using hx))⟩)) ?_
  refine rb_bigO 133 (AppK hL7 a1 cb (Value.slice ak1 k ck1) (Value.slice ab 0 cb2) k xs key) rfl (by kernel_rfl) (fun v _ _ _ k2 hr => hr.step k2)
    (fun u h' hk hu => by
      obtain ⟨g, w1, w2, a', rfl, Bg, B', ha', hg, hga, p1, p2⟩ := hu
      obtain ⟨y1, m1, d1, rfl⟩ := p1.form
      obtain ⟨y2, m2, d2, rfl⟩ := p2.form
      obtain ⟨a9, B9, _, T⟩ := hk.2 _ i.bb i.ar
      have e9 := blk_inj B' B9
      simp only [List.cons.injEq, and_true] at e9
      obtain ⟨rfl, _⟩ := e9
      have Oh := i.ow.keep2 T.keep (fun x hx hm => by
        rcases List.mem_append.1 hm with e | e
        · exact (hkne x hx).2 (by simpa using e)
        · exact (i.ko x hx).2 e)
      refine OpW.mono (w_app1 u_sl_keyspan_Key info_keyspan_Key rfl rfl rfl Oh rfl rfl Bg rfl (by omega) (by omega) (Nat.zero_le _)) (fun v h'' hv => ?_)
      obtain ⟨O', K', _, F'⟩ := hv
      exact ⟨app_svs B' ha' (fun x hx => ⟨(hkne x hx).2, fun hm => by
        rcases T.own x hm with e | e
        · exact (i.ko x hx).2 e
        · have := hk8 x hx; omega⟩) K', app_appk T hb8 (fun x hx => ⟨(hkne x hx).2, (i.ko x hx).2, hk8 x hx⟩) B' ha' p1 p2 O' K' F'⟩) ?_
  refine rb_end ?_; intro ha9 Ka9; simp only [endM, hypF, ofE, argE, List.nil_append]
  intro v50 hv50 v49 _ v48 _ v47 _ v34 _
  have hf50 : ∃ ax cx, v50 = .slice ax (k + 1) cx := by obtain ⟨_, _, _, _, _, _, O, _⟩ := hv50; exact Own.form3 O
  obtain ⟨ax, cx, rfl⟩ := hf50
  obtain ⟨a2, B2, _⟩ := at8 ha9 Ka9
  refine rx_seq ?_
  refine rs_v (v_nilCheck_ptr rfl) rfl ?_
  refine rs_v (v_fieldAddr fa_keyspan_DefragmentingBuffers_1 rfl) rfl ?_
  refine rs_w0 (w_put siz_sl_keyspan_Key rfl rfl rfl rfl B2 rfl) ?_
  rintro _ h9 ⟨B9, K9⟩
  obtain ⟨a3, xs3, G3, i3⟩ := i.app hd2 hcl hbl hkey Ka9 hv50 K9 (fun a99 B99 => by
    have e9 := blk_inj B2 B99
    simp only [List.cons.injEq, and_true] at e9
    obtain ⟨rfl, _⟩ := e9
    exact B9)
  refine rs_nil ?_
  refine q_con ?_
  refine rx_nil ?_
  refine q_blk_n ?_
  refine q_thn ?_
  refine tr_reg ?_
  refine rs_v (v_add rfl rfl (by omega) (by omega)) rfl ?_
  refine rs_v (v_move rfl) rfl ?_
  refine rs_nil ?_
  refine q_lp (s.ks.length - (k + 1)) [(0, _), (80, _), (81, _)] (by omega) ⟨rfl, rfl, rfl, trivial⟩ ⟨k + 1, _, _, _, _, by omega, rfl, rfl, i3⟩
end Go.Proofs.Ytgebfbnndgjkiaa
namespace Go.Proofs.Ytgebfbnndgjkiaa
open Go.Tess Go.RowKit
set_option maxRecDepth 100000
set_option maxHeartbeats 1000000
def eqF : Value := .func (.func 78) #[] #[]
def defF : Value := .func (.func 67) #[] #[]
def redF : Value := .func (.func 68) #[] #[]
def mthV : Value := .iface 161 defF
theorem take_step {α : Type} {a b : List α} {k : Nat} {x y : α} (h : a.take k = b.take k) (hx : a[k]? = some x) (hy : b[k]? = some y) (e : x = y) : a.take (k + 1) = b.take (k + 1) := by
  rw [take_snoc' hx, take_snoc' hy, h, e]
theorem keys_ne {a b : List KeyD} {k : Nat} {x y : KeyD} (hx : a[k]? = some x) (hy : b[k]? = some y) (h : x ≠ y) : keysEq a b = false := by
  cases hq : keysEq a b with
  | false => rfl
  | true => rw [keysEq_iff.1 hq, hy] at hx; exact absurd (Option.some.inj hx).symm h
theorem m_Should (v : Value) : Meth Try.prog 161 v "ShouldDefragment" 139 v := fun _ => by kernel_rfl

theorem c_bytesEqual (χ : Chi) (h : Heap) (a b : Value) (s u : ByteArray) (ha : RBy h a s) (hb : RBy h b u) :
    Cl Try.prog χ 78 #[a, b] h (fun r h' => r = .bool (seq' s u) ∧ h' = h) := by
  refine cl_intro Try.func78 rfl rfl rfl ?_
  have K : Keep [] h h := Keep.refl _ _
  refine tr_seq ?_
  refine tr_reg ?_
  refine rs_v (v_assign rfl) rfl ?_
  refine rs_nil ?_
  refine q_thn ?_
  refine tr_seq ?_
  refine tr_reg ?_
  refine rs_v (v_move rfl) rfl ?_
  refine rs_v (v_toStr u_sl_uint8 u_uint8 u_string rfl ha) rfl ?_
  refine rs_v (v_move rfl) rfl ?_
  refine rs_v (v_toStr u_sl_uint8 u_uint8 u_string rfl hb) rfl ?_
  refine rs_v (v_seq rfl rfl) rfl ?_
  refine rs_v (v_assign rfl) rfl ?_
  refine rs_nil ?_
  refine q_thn ?_
  refine tr_ret ?_
  refine q_ret (res_tmp rfl rfl) ?_
  exact ⟨rfl, rfl⟩
theorem c_Reduce (χ : Chi) (h : Heap) (a b : Value) :
    Cl Try.prog χ 68 #[a, b] h (fun r h' => r = a ∧ h' = h) := by
  refine cl_intro Try.func68 rfl rfl rfl ?_
  have K : Keep [] h h := Keep.refl _ _
  refine tr_seq ?_
  refine tr_reg ?_
  refine rs_v (v_assign rfl) rfl ?_
  refine rs_nil ?_
  refine q_thn ?_
  refine tr_seq ?_
  refine tr_reg ?_
  refine rs_v (v_move rfl) rfl ?_
  refine rs_v (v_assign rfl) rfl ?_
  refine rs_nil ?_
  refine q_thn ?_
  refine tr_ret ?_
  refine q_ret (res_tmp rfl rfl) ?_
  exact ⟨rfl, rfl⟩
theorem c_DefragmentInternal (χ : Chi) (h : Heap) (A B : Nat → Prop) (ba oa bb ob : Nat) (s t : SpanD) (hA : PSpan A h ba oa s) (hB : PSpan B h bb ob t) (hn : s.ks.length ≤ 100000) :
    Cl Try.prog χ 67 #[eqF, .pointer (some ⟨ba, oa, none⟩), .pointer (some ⟨bb, ob, none⟩)] h (fun r h' => r = .bool (keysEq s.ks t.ks) ∧ h' = h) := by
  obtain ⟨sa, ea, va, _, hca, ha1, ha2, ha3⟩ := hA
  obtain ⟨sb, eb, vb, _, hcb, hb1, hb2, hb3⟩ := hB
  obtain ⟨ka, ca, rfl⟩ := SlR.form2 ha3
  obtain ⟨kb, cb, rfl⟩ := SlR.form2 hb3
  unfold eqF
  refine cl_intro Try.func67 rfl rfl rfl ?_
  have K : Keep [] h h := Keep.refl _ _
  refine tr_seq ?_
  refine tr_reg ?_
  refine rs_v (v_assign rfl) rfl ?_
  refine rs_nil ?_
  refine q_thn ?_
  refine tr_seq ?_
  refine tr_seq ?_
  refine tr_reg ?_
  refine rs_v (v_move rfl) rfl ?_
  refine rs_v (v_nilCheck_ptr rfl) rfl ?_
  refine rs_v (v_fieldAddr fa_keyspan_Span_3 rfl) rfl ?_
  refine rs_v (v_load one_keyspan_KeysOrder rfl (by exact hca.at 3 rfl)) rfl ?_
  refine rs_v (v_ne rfl rfl) rfl ?_
  refine rs_v (v_move rfl) rfl ?_
  refine rs_gv rfl (rfl) (v_move rfl) rfl ?_
  refine rs_gv rfl (rfl) (v_nilCheck_ptr rfl) rfl ?_
  refine rs_gv rfl (rfl) (v_fieldAddr fa_keyspan_Span_3 rfl) rfl ?_
  refine rs_gv rfl (rfl) (v_load one_keyspan_KeysOrder rfl (by exact hcb.at 3 rfl)) rfl ?_
  refine rs_gv rfl (rfl) (v_ne rfl rfl) rfl ?_
  refine rs_v (v_pick_f rfl rfl) rfl ?_
  refine rs_nil ?_
  refine q_thn ?_
  refine tr_if_f rfl ?_
  refine tr_skip ?_
  refine q_thn ?_
  refine tr_seq ?_
  refine tr_seq ?_
  refine tr_quiet (by kernel_rfl) (by kernel_rfl) ?_
  refine rq_v (v_move rfl) ?_
  refine rq_v (v_nilCheck_ptr rfl) ?_
  refine rq_v (v_fieldAddr fa_keyspan_Span_2 rfl) ?_
  refine rq_v (v_load one_sl_keyspan_Key rfl (by exact hca.at 2 rfl)) ?_
  refine rq_v (v_len u_sl_keyspan_Key rfl) ?_
  refine rq_v (v_move rfl) ?_
  refine rq_v (v_nilCheck_ptr rfl) ?_
  refine rq_v (v_fieldAddr fa_keyspan_Span_2 rfl) ?_
  refine rq_v (v_load one_sl_keyspan_Key rfl (by exact hcb.at 2 rfl)) ?_
  refine rq_v (v_len u_sl_keyspan_Key rfl) ?_
  refine rq_v (v_ne rfl rfl) ?_
  refine rm_end ?_; simp only [endM, hypF, ofE, argE]
  refine q_thn ?_
  refine tr_if rfl (fun hif => ?_) (fun hif => ?_)
  · -- yes
    simp only [decide_eq_true_eq, decide_eq_false_iff_not] at hif
    refine tr_seq ?_
    refine tr_reg ?_
    refine rs_v (v_assign rfl) rfl ?_
    refine rs_nil ?_
    refine q_thn ?_
    refine tr_ret ?_
    refine q_thn_ret ?_
    refine q_ret (res_tmp rfl rfl) ?_
    refine ⟨?_, rfl⟩
    cases hq : keysEq s.ks t.ks with
    | false => rfl
    | true => rw [keysEq_iff.1 hq] at hif; simp at hif
  -- no
  simp only [decide_eq_false_iff_not, ne_eq, Decidable.not_not] at hif
  have hlen : s.ks.length = t.ks.length := by omega
  refine tr_skip ?_
  refine q_thn ?_
  refine tr_seq ?_
  refine tr_seq ?_
  refine tr_reg ?_
  refine rs_v (v_move rfl) rfl ?_
  refine rs_v (v_nilCheck_ptr rfl) rfl ?_
  refine rs_v (v_fieldAddr fa_keyspan_Span_2 rfl) rfl ?_
  refine rs_v (v_load one_sl_keyspan_Key rfl (by exact hca.at 2 rfl)) rfl ?_
  refine rs_v (v_len u_sl_keyspan_Key rfl) rfl ?_
  refine rs_v (v_move rfl) rfl ?_
  refine rs_nil ?_
  refine q_thn ?_
  refine tr_block ?_
  refine tr_loop (fun m E h' => ∃ k, k ≤ s.ks.length ∧ m = s.ks.length - k ∧ E = [(0, eqF), (1, .pointer (some ⟨ba, oa, none⟩)), (2, .pointer (some ⟨bb, ob, none⟩)), (36, .int .i64 (s.ks.length : Int)), (37, .int .i64 (k : Int))] ∧ h' = h ∧ s.ks.take k = t.ks.take k) s.ks.length [(0, _), (1, _), (2, _), (36, _), (37, _)] ⟨rfl, rfl, rfl, rfl, rfl, trivial⟩ ⟨0, Nat.zero_le _, rfl, rfl, rfl, rfl⟩ ?_
  rintro m E hL1 ⟨k, hk, rfl, rfl, rfl, htk⟩
  refine tr_seq ?_
  refine tr_reg ?_
  refine rs_v (v_lt rfl rfl) rfl ?_
  refine rs_nil ?_
  refine q_thn ?_
  refine tr_seq ?_
  refine tr_ifn rfl (fun hif => ?_) (fun hif => ?_)
  · -- no
    simp only [decide_eq_true_eq, decide_eq_false_iff_not] at hif
    have hkk : k = s.ks.length := by omega
    subst hkk
    refine tr_exit ?_
    refine q_thn_exit ?_
    refine q_lp_exit ?_
    refine q_blk_hit ?_
    refine q_thn ?_
    refine tr_seq ?_
    refine tr_reg ?_
    refine rs_v (v_assign rfl) rfl ?_
    refine rs_nil ?_
    refine q_thn ?_
    refine tr_ret ?_
    refine q_ret (res_tmp rfl rfl) ?_
    refine ⟨?_, rfl⟩
    rw [List.take_length, List.take_of_length_le (by omega)] at htk
    rw [keysEq_iff.2 htk]
  -- yes
  simp only [decide_eq_true_eq, decide_eq_false_iff_not] at hif
  obtain ⟨kb1, ko1, key1, s1, u1, rfl, hkey1, hc1, hF1, hs1, hu1⟩ := key_get ha3 (k := k) (by omega)
  obtain ⟨kb2, ko2, key2, s2, u2, rfl, hkey2, hc2, hF2, hs2, hu2⟩ := key_get hb3 (k := k) (by omega)
  refine tr_skip ?_
  refine q_thn ?_
  refine tr_seq ?_
  refine tr_block ?_
  refine tr_seq ?_
  refine tr_reg ?_
  refine rs_v (v_move rfl) rfl ?_
  refine rs_v (v_assign rfl) rfl ?_
  refine rs_nil ?_
  refine q_thn ?_
  refine tr_seq ?_
  refine tr_seq ?_
  refine tr_quiet (by kernel_rfl) (by kernel_rfl) ?_
  refine rq_v (v_move rfl) ?_
  refine rq_v (v_nilCheck_ptr rfl) ?_
  refine rq_v (v_fieldAddr fa_keyspan_Span_2 rfl) ?_
  refine rq_v (v_load one_sl_keyspan_Key rfl (by exact hca.at 2 rfl)) ?_
  refine rq_v (v_move rfl) ?_
  refine rq_v (v_indexAddrN u_sl_keyspan_Key siz_keyspan_Key rfl rfl (by omega)) ?_
  refine rq_v (v_fieldAddr fa_keyspan_Key_0 rfl) ?_
  refine rq_v (v_load one_uint64 rfl (by exact hc1.at 0 rfl)) ?_
  refine rq_v (v_move rfl) ?_
  refine rq_v (v_nilCheck_ptr rfl) ?_
  refine rq_v (v_fieldAddr fa_keyspan_Span_2 rfl) ?_
  refine rq_v (v_load one_sl_keyspan_Key rfl (by exact hcb.at 2 rfl)) ?_
  refine rq_v (v_move rfl) ?_
  refine rq_v (v_indexAddrN u_sl_keyspan_Key siz_keyspan_Key rfl rfl (by omega)) ?_
  refine rq_v (v_fieldAddr fa_keyspan_Key_0 rfl) ?_
  refine rq_v (v_load one_uint64 rfl (by exact hc2.at 0 rfl)) ?_
  refine rq_v (v_ne rfl rfl) ?_
  refine rm_end ?_; simp only [endM, hypF, ofE, argE]
  refine q_thn ?_
  refine tr_if rfl (fun hif => ?_) (fun hif => ?_)
  · -- yes
    simp only [decide_eq_true_eq, decide_eq_false_iff_not] at hif
    refine tr_seq ?_
    refine tr_reg ?_
    refine rs_v (v_assign rfl) rfl ?_
    refine rs_nil ?_
    refine q_thn ?_
    refine tr_ret ?_
    refine q_thn_ret ?_
    refine q_blk_ret ?_
    refine q_thn_ret ?_
    refine q_lp_ret ?_
    refine q_blk_ret ?_
    refine q_thn_ret ?_
    refine q_ret (res_tmp rfl rfl) ?_
    refine ⟨by rw [keys_ne hkey1 hkey2 (fun e => by subst e; simp at hif)], rfl⟩
  -- no
  simp only [decide_eq_false_iff_not, ne_eq, Decidable.not_not] at hif
  have htr := hif
  refine tr_skip ?_
  refine q_thn ?_
  refine tr_seq ?_
  refine tr_seq ?_
  refine tr_quiet (by kernel_rfl) (by kernel_rfl) ?_
  refine rq_v (v_move rfl) ?_
  refine rq_v (v_move rfl) ?_
  refine rq_v (v_nilCheck_ptr rfl) ?_
  refine rq_v (v_fieldAddr fa_keyspan_Span_2 rfl) ?_
  refine rq_v (v_load one_sl_keyspan_Key rfl (by exact hca.at 2 rfl)) ?_
  refine rq_v (v_move rfl) ?_
  refine rq_v (v_indexAddrN u_sl_keyspan_Key siz_keyspan_Key rfl rfl (by omega)) ?_
  refine rq_v (v_fieldAddr fa_keyspan_Key_1 rfl) ?_
  refine rq_v (v_load one_sl_uint8 rfl (by exact hc1.at 1 rfl)) ?_
  refine rq_v (v_move rfl) ?_
  refine rq_v (v_nilCheck_ptr rfl) ?_
  refine rq_v (v_fieldAddr fa_keyspan_Span_2 rfl) ?_
  refine rq_v (v_load one_sl_keyspan_Key rfl (by exact hcb.at 2 rfl)) ?_
  refine rq_v (v_move rfl) ?_
  refine rq_v (v_indexAddrN u_sl_keyspan_Key siz_keyspan_Key rfl rfl (by omega)) ?_
  refine rq_v (v_fieldAddr fa_keyspan_Key_1 rfl) ?_
  refine rq_v (v_load one_sl_uint8 rfl (by exact hc2.at 1 rfl)) ?_
  refine rq_w (w_callv (first := []) (cap := []) (vs := [_, _]) ok_bytes_Equal rfl ⟨rfl, rfl, trivial⟩ (c_bytesEqual χ _ _ _ _ _ (RBytes.by hs1) (RBytes.by hs2))) ?_
  refine rq_v (v_not rfl) ?_
  refine rm_end ?_; simp only [endM, hypF, ofE, argE]
  refine q_thn ?_
  refine tr_if rfl (fun hif => ?_) (fun hif => ?_)
  · -- yes
    skip
    refine tr_seq ?_
    refine tr_reg ?_
    refine rs_v (v_assign rfl) rfl ?_
    refine rs_nil ?_
    refine q_thn ?_
    refine tr_ret ?_
    refine q_thn_ret ?_
    refine q_blk_ret ?_
    refine q_thn_ret ?_
    refine q_lp_ret ?_
    refine q_blk_ret ?_
    refine q_thn_ret ?_
    refine q_ret (res_tmp rfl rfl) ?_
    refine ⟨by rw [keys_ne hkey1 hkey2 (fun e => by subst e; simp [seq_iff.2 rfl] at hif)], rfl⟩
  -- no
  have hsuf := seq_iff.1 (by simpa using hif)
  refine tr_skip ?_
  refine q_thn ?_
  refine tr_seq ?_
  refine tr_quiet (by kernel_rfl) (by kernel_rfl) ?_
  refine rq_v (v_move rfl) ?_
  refine rq_v (v_nilCheck_ptr rfl) ?_
  refine rq_v (v_fieldAddr fa_keyspan_Span_2 rfl) ?_
  refine rq_v (v_load one_sl_keyspan_Key rfl (by exact hca.at 2 rfl)) ?_
  refine rq_v (v_move rfl) ?_
  refine rq_v (v_indexAddrN u_sl_keyspan_Key siz_keyspan_Key rfl rfl (by omega)) ?_
  refine rq_v (v_fieldAddr fa_keyspan_Key_2 rfl) ?_
  refine rq_v (v_load one_sl_uint8 rfl (by exact hc1.at 2 rfl)) ?_
  refine rq_v (v_move rfl) ?_
  refine rq_v (v_nilCheck_ptr rfl) ?_
  refine rq_v (v_fieldAddr fa_keyspan_Span_2 rfl) ?_
  refine rq_v (v_load one_sl_keyspan_Key rfl (by exact hcb.at 2 rfl)) ?_
  refine rq_v (v_move rfl) ?_
  refine rq_v (v_indexAddrN u_sl_keyspan_Key siz_keyspan_Key rfl rfl (by omega)) ?_
  refine rq_v (v_fieldAddr fa_keyspan_Key_2 rfl) ?_
  refine rq_v (v_load one_sl_uint8 rfl (by exact hc2.at 2 rfl)) ?_
  refine rq_w (w_call (vs := [_, _]) ok_bytes_Equal rfl ⟨rfl, rfl, trivial⟩ (c_bytesEqual χ _ _ _ _ _ (RBytes.by hu1) (RBytes.by hu2))) ?_
  refine rq_v (v_not rfl) ?_
  refine rm_end ?_; simp only [endM, hypF, ofE, argE]
  refine q_thn ?_
  refine tr_if rfl (fun hif => ?_) (fun hif => ?_)
  · -- yes
    skip
    refine tr_seq ?_
    refine tr_reg ?_
    refine rs_v (v_assign rfl) rfl ?_
    refine rs_nil ?_
    refine q_thn ?_
    refine tr_ret ?_
    refine q_blk_ret ?_
    refine q_thn_ret ?_
    refine q_lp_ret ?_
    refine q_blk_ret ?_
    refine q_thn_ret ?_
    refine q_ret (res_tmp rfl rfl) ?_
    refine ⟨by rw [keys_ne hkey1 hkey2 (fun e => by subst e; simp [seq_iff.2 rfl] at hif)], rfl⟩
  -- no
  have hval := seq_iff.1 (by simpa using hif)
  refine tr_skip ?_
  refine q_blk_n ?_
  refine q_thn ?_
  refine tr_reg ?_
  refine rs_v (v_add rfl rfl (by omega) (by omega)) rfl ?_
  refine rs_v (v_move rfl) rfl ?_
  refine rs_nil ?_
  refine q_lp (s.ks.length - (k + 1)) [(0, _), (1, _), (2, _), (36, _), (37, _)] (by omega) ⟨rfl, rfl, rfl, rfl, rfl, trivial⟩ ⟨k + 1, by omega, rfl, rfl, rfl, take_step htk hkey1 hkey2 ?_⟩
  cases key1; cases key2
  simp only at htr hsuf hval ⊢
  rw [hsuf, hval, htr]
theorem c_Should (χ : Chi) (h : Heap) (A B : Nat → Prop) (ba oa bb ob : Nat) (s t : SpanD) (hA : PSpan A h ba oa s) (hB : PSpan B h bb ob t) (hn : s.ks.length ≤ 100000) :
    Cl Try.prog χ 139 #[defF, eqF, .pointer (some ⟨ba, oa, none⟩), .pointer (some ⟨bb, ob, none⟩)] h (fun r h' => r = .bool (keysEq s.ks t.ks) ∧ h' = h) := by
  unfold defF
  refine cl_intro Try.func139 rfl rfl rfl ?_
  have K : Keep [] h h := Keep.refl _ _
  refine tr_seq ?_
  refine tr_reg ?_
  refine rs_v (v_assign rfl) rfl ?_
  refine rs_nil ?_
  refine q_thn ?_
  refine tr_seq ?_
  refine tr_reg ?_
  refine rs_v (v_move rfl) rfl ?_
  refine rs_v (v_move rfl) rfl ?_
  refine rs_v (v_move rfl) rfl ?_
  refine rs_v (v_move rfl) rfl ?_
  refine rs_w (w_callv (first := []) (cap := []) (vs := [_, _, _]) ok_keyspan_DefragmentInternal rfl ⟨rfl, rfl, rfl, trivial⟩ (c_DefragmentInternal χ _ A B _ _ _ _ s t hA hB hn)) rfl ?_
  rintro _ h1 ⟨rfl, hsame⟩; have hsame := hsame.symm; subst hsame
  refine rs_v (v_assign rfl) rfl ?_
  refine rs_nil ?_
  refine q_thn ?_
  refine tr_ret ?_
  refine q_ret (res_tmp rfl rfl) ?_
  exact ⟨rfl, rfl⟩
theorem c_checkEqual (χ : Chi) (h : Heap) (A B : Nat → Prop) (c ba oa : Nat) (s t : SpanD) (x0 x1 x3 x5 y0 y1 y2 y3 rd : Value) (Bc : Blk h c [x0, x1, eqF, x3, .pointer (some ⟨ba, oa, none⟩), x5, y0, y1, y2, y3, mthV, rd] dfT) (hA : PSpan A h ba oa s) (hB : PSpan B h c 6 t) (hn : s.ks.length ≤ 100000) (hs0 : s.ks ≠ []) (ht0 : t.ks ≠ []) :
    Cl Try.prog χ 152 #[.pointer (some ⟨c, 0, none⟩), .pointer (some ⟨ba, oa, none⟩), .pointer (some ⟨c, 6, none⟩)] h (fun r h' => r = .bool (keysEq s.ks t.ks) ∧ h' = h) := by
  have hA0 := hA
  have hB0 := hB
  obtain ⟨sa, ea, va, _, hca, ha1, ha2, ha3⟩ := hA
  obtain ⟨sb, eb, vb, _, hcb, hb1, hb2, hb3⟩ := hB
  obtain ⟨ka, ca, rfl⟩ := SlR.form2 ha3
  obtain ⟨kb, cb, rfl⟩ := SlR.form2 hb3
  have hg1 : (!decide ((s.ks.length : Int) = 0)) = true := by simp; exact hs0
  have hg2 : (!decide ((t.ks.length : Int) = 0)) = true := by simp; exact ht0
  refine cl_intro Try.func152 rfl rfl rfl ?_
  have K : Keep [] h h := Keep.refl _ _
  refine tr_seq ?_
  refine tr_reg ?_
  refine rs_v (v_assign rfl) rfl ?_
  refine rs_nil ?_
  refine q_thn ?_
  refine tr_seq ?_
  refine tr_quiet (by kernel_rfl) (by kernel_rfl) ?_
  refine rq_v (v_move rfl) ?_
  refine rq_w (w_call (vs := [_]) ok_keyspan_Span_Empty rfl ⟨rfl, trivial⟩ (c_Empty χ _ _ _ ka s.ks.length ca (hca.at 2 rfl))) ?_
  refine rq_v (v_not rfl) ?_
  refine rq_v (v_move rfl) ?_
  refine rq_gv rfl (lkm hg1) (v_move rfl) ?_
  refine rq_gw rfl (lkm hg1) (w_call (vs := [_]) ok_keyspan_Span_Empty rfl ⟨rfl, trivial⟩ (c_Empty χ _ _ _ kb t.ks.length cb (hcb.at 2 rfl))) ?_
  refine rq_gv rfl (lkm hg1) (v_not rfl) ?_
  refine rq_v (v_pick_t (lkb hg1) rfl) ?_
  refine rq_v (v_move rfl) ?_
  refine rq_gv rfl (lkm (show _ = true from hg2)) (v_move rfl) ?_
  refine rq_gv rfl (lkm (show _ = true from hg2)) (v_nilCheck_ptr rfl) ?_
  refine rq_gv rfl (lkm (show _ = true from hg2)) (v_fieldAddr fa_keyspan_DefragmentingIter_7 rfl) ?_
  refine rq_gv rfl (lkm (show _ = true from hg2)) (v_load one_keyspan_DefragmentMethod rfl (by exact Bc.cell _ rfl)) ?_
  refine rq_gv rfl (lkm (show _ = true from hg2)) (v_move rfl) ?_
  refine rq_gv rfl (lkm (show _ = true from hg2)) (v_nilCheck_ptr rfl) ?_
  refine rq_gv rfl (lkm (show _ = true from hg2)) (v_fieldAddr fa_keyspan_DefragmentingIter_2 rfl) ?_
  refine rq_gv rfl (lkm (show _ = true from hg2)) (v_load one_base_Equal rfl (by exact Bc.cell _ rfl)) ?_
  refine rq_gv rfl (lkm (show _ = true from hg2)) (v_move rfl) ?_
  refine rq_gv rfl (lkm (show _ = true from hg2)) (v_nilCheck_ptr rfl) ?_
  refine rq_gv rfl (lkm (show _ = true from hg2)) (v_fieldAddr fa_keyspan_DefragmentingIter_4 rfl) ?_
  refine rq_gv rfl (lkm (show _ = true from hg2)) (v_load one_p_keyspan_Span rfl (by exact Bc.cell _ rfl)) ?_
  refine rq_gv rfl (lkm (show _ = true from hg2)) (v_move rfl) ?_
  refine rq_gv rfl (lkm (show _ = true from hg2)) (v_nilCheck_ptr rfl) ?_
  refine rq_gv rfl (lkm (show _ = true from hg2)) (v_fieldAddr fa_keyspan_DefragmentingIter_6 rfl) ?_
  refine rq_gv rfl (lkm (show _ = true from hg2)) (v_nilCheck_iface rfl) ?_
  refine rq_gv rfl (lkm (show _ = true from hg2)) (v_move rfl) ?_
  refine rq_gw rfl (lkm (show _ = true from hg2)) (w_invoke (vs := [_, _, _]) ok_keyspan_DefragmentMethodFunc_ShouldDefragment (m_Should _) rfl ⟨rfl, rfl, rfl, trivial⟩ (c_Should χ _ A B _ _ _ _ s t hA0 hB0 hn)) ?_
  refine rq_v (v_pick_t (lkb hg2) rfl) ?_
  refine rq_v (v_assign rfl) ?_
  refine rm_end ?_; simp only [endM, hypF, ofE, argE]
  refine q_thn ?_
  refine tr_ret ?_
  refine q_ret (res_tmp rfl rfl) ?_
  exact ⟨rfl, rfl⟩
end Go.Proofs.Ytgebfbnndgjkiaa
namespace Go.Proofs.Ytgebfbnndgjkiaa
open Go.Tess Go.RowKit
set_option maxRecDepth 100000
set_option maxHeartbeats 1000000
section
variable {P : Program} {χ : Chi} {ρ : Operand → Option Value} {h : Heap} {ty : TypeId} {pos : String} {after : Array Edge} {guard : Option (Nat × Bool)}
/-- append of all elements of a slice, nil or not. -/
theorem w_appS {s x : Operand} {t e : TypeId} {dst : Option Tmp} {z : Value} {size bytes base : Nat} {v : Value} {n m c : Nat} {y : Option Addr} {xs : List Value} {news : List Value}
    (ht : P.underlying t = some (.slice e)) (hi : (P.info? e).map (fun i => (i.zero, i.size, i.bytes)) = some (some z, size, bytes)) (hzs : Nat.beq z.cells.size size = true) (hsz : Nat.blt 0 size = true)
    (hs : ρ s = some v) (hown : Own h base e size v n xs) (hx : ρ x = some (.slice y m c)) (hl : news.length = m * size)
    (hnews : news = [] ∨ ∃ b o, y = some ⟨b, o, none⟩ ∧ CellsAt h b o news) (h1 : ∀ u, u ∈ news → u.oneCell' = true) (hbytes : (n + m) * bytes ≤ 140737488355328) (hn : n + m ≤ 9223372036854775807) (hbase : base ≤ h.size) :
    OpW P χ ⟨dst, .call ⟨.builtin .append, #[s, x], #[t, t]⟩, ty, pos, after, guard⟩ ρ h
      (fun v' h' => Own h' base e size v' (n + m) (xs ++ news) ∧ Keep v.ownBlock.toList h h' ∧ (v'.ownBlock = v.ownBlock ∨ v'.ownBlock = some h.size)) := by
  cases hq : P.info? e with
  | none => rw [hq] at hi; simp at hi
  | some i =>
    rw [hq] at hi
    simp only [Option.map_some, Option.some.injEq, Prod.mk.injEq] at hi
    have hsz' : 0 < size := by simpa [Nat.blt_eq] using hsz
    refine w_of_run fun r d hr => ?_
    have e1 := hr s (by simp [Op.operands, Call.operands]) _ hs
    have e2 := hr x (by simp [Op.operands, Call.operands]) _ hx
    cases y with
    | none =>
      have hnil : news = [] := by
        rcases hnews with e | ⟨b, o, e, _⟩
        · exact e
        · cases e
      subst hnil
      have hm : m = 0 := by
        simp only [List.length_nil] at hl
        rcases Nat.eq_zero_or_pos m with h0 | h0
        · exact h0
        · have := Nat.mul_pos h0 hsz'; omega
      subst hm
      have hrun : (Builtin.append_ #[t, t] ty #[v, .slice none 0 c]).run P (mkw χ h d) = .ok v (mkw χ h d) := by
        rcases hown.2 with ⟨rfl, rfl⟩ | ⟨g, cap, cur, rfl, _, _, hnc, _⟩
        · simp [Builtin.append_, run_underlying ht, sizeOf, typeInfo, hq, Builtin.lenOf, Builtin.firstCells]
        · simp [Builtin.append_, run_underlying ht, sizeOf, typeInfo, hq, Builtin.lenOf, Builtin.firstCells, hnc, storeCells]
      refine ⟨v, h, d, ?_, by simpa using hown, Keep.refl _ _, .inl rfl⟩
      simp [execOp, resolve, invoke, builtin, e1, e2, hrun]
    | some ad =>
      obtain ⟨v', w', hrun, h2, h3, h4, h5⟩ := run_append_own_at (P := P) (mkw χ h d) base t ty e i z size bytes ht hq hi.1 hi.2.1 hi.2.2 (Nat.eq_of_beq_eq_true hzs) hsz' v n xs hown ad m c news hl
        (fun j u hj => by
          rcases hnews with e | ⟨b, o, e, hc⟩
          · rw [e] at hj; simp at hj
          · cases e; rw [addr_add, cell_mkw]; exact hc j u hj) h1 (by unfold maxLen; omega) hbytes hbase
      obtain ⟨k1, k2⟩ := grown_keep h3
      refine ⟨v', w'.heap, w'.drawn, ?_, ?_, k2, h5⟩
      · simp [execOp, resolve, invoke, builtin, e1, e2, hrun]; exact k1
      · rw [k1] at h2; exact h2
end
/-- The iterator between two steps of its own. -/
structure DSt (W : List SpanD) (I : ItI) (t : TypeId) (v0 cm : Value) (c cb : Nat) (q : Pos) (Fin F : Nat → Prop) (h : Heap) (sp : Value) (z : Int) (sv ev kv a ksv kbv : Value) (nk : Nat) (xk : List Value) (nb : Nat) (xb : List Value) : Prop where
  it : I q Fin h
  bc : Blk h c (dL cb cm eqF (.iface t v0) sp z sv ev kv mthV redF) dfT
  bb : Blk h cb [a, ksv, kbv] bufT
  ar : Aren h a
  ok : Own h 0 keyT 3 ksv nk xk
  ob : Own h 0 u8T 1 kbv nb xb
  di : Dis c cb a ksv kbv Fin
  ff : ∀ b, Fin b → F b
  fc : F c
  fb : F cb
  fa : ∀ x, x ∈ a.ownBlock.toList → F x
  fk : ∀ x, x ∈ ksv.ownBlock.toList → F x
  fo : ∀ x, x ∈ kbv.ownBlock.toList → F x
  lo : Low F h
/-- .. while it joins: cur is what has been joined. d: forward. -/
structure MS (W : List SpanD) (I : ItI) (t : TypeId) (v0 cm : Value) (c cb : Nat) (d : Bool) (cur : SpanD) (q : Pos) (Fin F G : Nat → Prop) (h : Heap) (sp : Value) (z : Int) (sv ev a ksv kbv : Value) (xk : List Value) (nb : Nat) (xb : List Value) : Prop where
  ds : DSt W I t v0 cm c cb q Fin F h sp z sv ev ksv a ksv kbv cur.ks.length xk nb xb
  rw : RowsR 3 (cPKey G h) xk cur.ks
  s1 : RBytes (fun b => G b ∨ (d = false ∧ b ∈ kbv.ownBlock.toList)) h sv cur.s
  s2 : RBytes (fun b => G b ∨ (d = true ∧ b ∈ kbv.ownBlock.toList)) h ev cur.e
  g : ∀ b, G b → b < h.size ∧ b ≠ c ∧ b ≠ cb ∧ ¬ Fin b ∧ b ∉ ksv.ownBlock.toList ∧ b ∉ kbv.ownBlock.toList ∧ F b
theorem Ret.stab {W : List SpanD} {q : Pos} {Fin : Nat → Prop} {h h' : Heap} {r : Value} (hr : Ret W q Fin h r) (hs : Stab Fin h h') : Ret W q Fin h' r := by
  unfold Ret at *
  cases hc : cur W q with
  | none => rw [hc] at hr; exact hr
  | some s => rw [hc] at hr; obtain ⟨b, o, e, h1, h2⟩ := hr; exact ⟨b, o, e, h1, h2.stab h1 hs⟩
section
variable {W : List SpanD} {I : ItI} {t : TypeId} {v0 cm : Value} {c cb : Nat} {d : Bool} {cur : SpanD} {q q' : Pos} {Fin F G : Nat → Prop} {h h' h1 h2 h3 : Heap} {sp sp' sv sv' ev ev' kv kv' a ksv kbv kbv' : Value} {z z' : Int} {nk nb nb' : Nat} {xk xb xb' : List Value} {χ : Chi}
theorem DSt.keepc (D : DSt W I t v0 cm c cb q Fin F h sp z sv ev kv a ksv kbv nk xk nb xb) {X : List Nat} (K : Keep X h h') (hX : ∀ x, x ∈ X → x = c ∨ x = cb) : Stab Fin h h' ∧ Aren h' a ∧ Own h' 0 keyT 3 ksv nk xk ∧ Own h' 0 u8T 1 kbv nb xb ∧ Low F h' := by
  refine ⟨K.stab fun b hb => ⟨D.lo b (D.ff b hb), fun hm => ?_⟩, D.ar.keep K (fun x hx hm => ?_), D.ok.keep2 K (fun x hx hm => ?_), D.ob.keep2 K (fun x hx hm => ?_), D.lo.mono K.1⟩
  · rcases hX b hm with e | e
    · subst e; exact D.di.fc hb
    · subst e; exact D.di.fb hb
  · rcases hX x hm with e | e
    · exact (D.di.a1 x hx).1 e
    · exact (D.di.a1 x hx).2.1 e
  · rcases hX x hm with e | e
    · exact (D.di.k1 x hx).1 e
    · exact (D.di.k1 x hx).2.1 e
  · rcases hX x hm with e | e
    · exact (D.di.b1 x hx).1 e
    · exact (D.di.b1 x hx).2.1 e
/-- A store into its own block. -/
theorem DSt.putC (hit : IterOK Try.prog χ W t v0 I) (D : DSt W I t v0 cm c cb q Fin F h sp z sv ev kv a ksv kbv nk xk nb xb) (K : Keep [c] h h') (B : Blk h' c (dL cb cm eqF (.iface t v0) sp' z' sv' ev' kv' mthV redF) dfT) :
    DSt W I t v0 cm c cb q Fin F h' sp' z' sv' ev' kv' a ksv kbv nk xk nb xb := by
  obtain ⟨e1, e2, e3, e4, e5⟩ := D.keepc K (fun x hx => .inl (by simpa using hx))
  exact ⟨hit.stab D.it e1 K.1, B, K.blk (by simp; exact fun e => D.di.ne e.symm) D.bb, e2, e3, e4, D.di, D.ff, D.fc, D.fb, D.fa, D.fk, D.fo, e5⟩
theorem DSt.putB (hit : IterOK Try.prog χ W t v0 I) (D : DSt W I t v0 cm c cb q Fin F h sp z sv ev kv a ksv kbv nk xk nb xb) (K : Keep [cb] h h') (B : Blk h' cb [a, ksv, kbv] bufT) :
    DSt W I t v0 cm c cb q Fin F h' sp z sv ev kv a ksv kbv nk xk nb xb := by
  obtain ⟨e1, e2, e3, e4, e5⟩ := D.keepc K (fun x hx => .inr (by simpa using hx))
  exact ⟨hit.stab D.it e1 K.1, K.blk (by simp; exact D.di.ne) D.bc, B, e2, e3, e4, D.di, D.ff, D.fc, D.fb, D.fa, D.fk, D.fo, e5⟩
/-- A step of the iterator beneath. -/
theorem DSt.inner (hit : IterOK Try.prog χ W t v0 I) (D : DSt W I t v0 cm c cb q Fin F h sp z sv ev kv a ksv kbv nk xk nb xb) {r : Value} (hp : ItPost W I Fin h q' r h') :
    ∃ Fin', DSt W I t v0 cm c cb q' Fin' (fun b => F b ∨ Fin' b) h' sp z sv ev kv a ksv kbv nk xk nb xb ∧ (∀ b, Fin' b → Fin b ∨ h.size ≤ b) ∧ KeepP Fin h h' ∧ KeepP F h h' ∧ Ret W q' Fin' h' r := by
  obtain ⟨Fin', hI', hF', KP, hret⟩ := hp
  have hn : ∀ x, x < h.size → ¬ Fin x → ¬ Fin' x := fun x hl hf hf' => by
    rcases hF' x hf' with e | e
    · exact hf e
    · omega
  have hcl := D.bc.lt; have hbl := D.bb.lt
  have hkl := own_ne D.ok; have hol := own_ne D.ob; have hal := D.ar.low
  have hA : Aren h' a := by
    rcases D.ar with e | ⟨g, n, c', cs, e, q1, q2, q3, B⟩
    · exact .inl e
    · exact .inr ⟨g, n, c', cs, e, q1, q2, q3, KP.blk (D.di.a1 g (by rw [e]; simp [Value.ownBlock])).2.2 B⟩
  refine ⟨Fin', ⟨hI', KP.blk D.di.fc D.bc, KP.blk D.di.fb D.bb, hA, KP.own D.ok (fun b hb => (D.di.k1 b (by rw [hb]; simp)).2.2.1), KP.own D.ob (fun b hb => (D.di.b1 b (by rw [hb]; simp)).2.2.1), ⟨D.di.ne, hn c hcl D.di.fc, hn cb hbl D.di.fb, fun x hx => ?_, fun x hx => ?_, fun x hx => ?_⟩, fun b hb => .inr hb, .inl D.fc, .inl D.fb, fun x hx => .inl (D.fa x hx), fun x hx => .inl (D.fk x hx), fun x hx => .inl (D.fo x hx), fun b hb => ?_⟩, hF', KP, ⟨KP.1, fun b hb hF => KP.2 b hb (fun hf => hF (D.ff b hf))⟩, hret⟩
  · obtain ⟨p1, p2, p3⟩ := D.di.a1 x hx
    exact ⟨p1, p2, hn x (hal x hx) p3⟩
  · obtain ⟨p1, p2, p3, p4⟩ := D.di.k1 x hx
    exact ⟨p1, p2, hn x (hkl x hx).2 p3, p4⟩
  · obtain ⟨p1, p2, p3, p4⟩ := D.di.b1 x hx
    exact ⟨p1, p2, hn x (hol x hx).2 p3, p4⟩
  · rcases hb with hb | hb
    · have := D.lo b hb; have := KP.1; omega
    · exact hit.low hI' b hb
theorem MS.gstab (M : MS W I t v0 cm c cb d cur q Fin F G h sp z sv ev a ksv kbv xk nb xb) {X : List Nat} (K : Keep X h h') (hX : ∀ x, x ∈ X → x = c ∨ x = cb) : Stab (fun b => G b ∨ b ∈ kbv.ownBlock.toList) h h' :=
  K.stab fun b hb => by
    rcases hb with hb | hb
    · obtain ⟨p1, p2, p3, _⟩ := M.g b hb
      exact ⟨p1, fun hm => (hX b hm).elim p2 p3⟩
    · obtain ⟨p1, p2, _⟩ := M.ds.di.b1 b hb
      exact ⟨(own_ne M.ds.ob b hb).2, fun hm => (hX b hm).elim p1 p2⟩
theorem MS.move (M : MS W I t v0 cm c cb d cur q Fin F G h sp z sv ev a ksv kbv xk nb xb) (hs : Stab (fun b => G b ∨ b ∈ kbv.ownBlock.toList) h h') (hz : h.size ≤ h'.size) {Fin' F' : Nat → Prop} (hF : ∀ b, F b → F' b) (hn : ∀ b, G b → ¬ Fin' b)
    (D : DSt W I t v0 cm c cb q' Fin' F' h' sp' z' sv ev ksv a ksv kbv cur.ks.length xk nb xb) : MS W I t v0 cm c cb d cur q' Fin' F' G h' sp' z' sv ev a ksv kbv xk nb xb :=
  ⟨D, M.rw.mono fun x k hr => cPKey_st.stab _ _ _ _ _ (fun b hb => hs b (.inl hb)) hr, M.s1.stab (fun b hb => hs b (hb.imp id (fun e => e.2))), M.s2.stab (fun b hb => hs b (hb.imp id (fun e => e.2))), fun b hb => by
    obtain ⟨p1, p2, p3, p4, p5, p6, p7⟩ := M.g b hb
    exact ⟨by omega, p2, p3, hn b hb, p5, p6, hF b p7⟩⟩
theorem MS.putC (hit : IterOK Try.prog χ W t v0 I) (M : MS W I t v0 cm c cb d cur q Fin F G h sp z sv ev a ksv kbv xk nb xb) (K : Keep [c] h h') (B : Blk h' c (dL cb cm eqF (.iface t v0) sp' z' sv ev ksv mthV redF) dfT) :
    MS W I t v0 cm c cb d cur q Fin F G h' sp' z' sv ev a ksv kbv xk nb xb :=
  M.move (M.gstab K (fun x hx => .inl (by simpa using hx))) K.1 (fun _ h => h) (fun b hb => (M.g b hb).2.2.2.1) (M.ds.putC hit K B)
theorem MS.putB (hit : IterOK Try.prog χ W t v0 I) (M : MS W I t v0 cm c cb d cur q Fin F G h sp z sv ev a ksv kbv xk nb xb) (K : Keep [cb] h h') (B : Blk h' cb [a, ksv, kbv] bufT) :
    MS W I t v0 cm c cb d cur q Fin F G h' sp z sv ev a ksv kbv xk nb xb :=
  M.move (M.gstab K (fun x hx => .inr (by simpa using hx))) K.1 (fun _ h => h) (fun b hb => (M.g b hb).2.2.2.1) (M.ds.putB hit K B)
theorem MS.inner (hit : IterOK Try.prog χ W t v0 I) (M : MS W I t v0 cm c cb d cur q Fin F G h sp z sv ev a ksv kbv xk nb xb) {r : Value} (hp : ItPost W I Fin h q' r h') :
    ∃ Fin', MS W I t v0 cm c cb d cur q' Fin' (fun b => F b ∨ Fin' b) G h' sp z sv ev a ksv kbv xk nb xb ∧ (∀ b, Fin' b → Fin b ∨ h.size ≤ b) ∧ KeepP F h h' ∧ Ret W q' Fin' h' r := by
  obtain ⟨Fin', D, hF', KP, KF, hret⟩ := M.ds.inner hit hp
  refine ⟨Fin', M.move (fun b hb => KP.2 b ?_ ?_) KP.1 (fun b hb => .inl hb) (fun b hb hf => ?_) D, hF', KF, hret⟩
  · rcases hb with hb | hb
    · exact (M.g b hb).1
    · exact (own_ne M.ds.ob b hb).2
  · rcases hb with hb | hb
    · exact (M.g b hb).2.2.2.1
    · exact (M.ds.di.b1 b hb).2.2.1
  · rcases hF' b hf with e | e
    · exact (M.g b hb).2.2.2.1 e
    · have := (M.g b hb).1; omega
theorem MS.pspan (M : MS W I t v0 cm c cb d cur q Fin F G h sp z sv ev a ksv kbv xk nb xb) : PSpan F h c 6 cur :=
  ⟨sv, ev, ksv, 0, M.ds.bc.sub 6 4 rfl, M.s1.mono (fun b hb => hb.elim (fun e => (M.g b e).2.2.2.2.2.2) (fun e => M.ds.fo b e.2)), M.s2.mono (fun b hb => hb.elim (fun e => (M.g b e).2.2.2.2.2.2) (fun e => M.ds.fo b e.2)),
    SlR.of_rows2 M.ds.ok rfl M.rw (fun b hb => M.ds.fk b hb) (fun b o c a hc hr => cPKey_r _ _ _ _ _ _ hc (cPKey_st.mono _ _ _ _ _ (fun b hb => (M.g b hb).2.2.2.2.2.2) hr))⟩
/-- A row of bytes as bytes. -/
theorem own_bytes {A : Nat → Prop} {v : Value} {s : ByteArray} (O : Own h 0 u8T 1 v s.data.toList.length (byteCells s.data.toList)) (hA : ∀ b, b ∈ v.ownBlock.toList → A b) : RBytes A h v s := by
  rcases O.form with ⟨rfl, h0, _⟩ | ⟨g, cap, rfl, hb, h0, h1, hc, hm, hcs⟩
  · have := List.eq_nil_of_length_eq_zero h0
    unfold RBytes; rw [this]
    exact SlR.nil _ _ _ _
  · refine ⟨by unfold maxLen at hm; omega, _, cap, rfl, fun i x hi => ⟨g, 0, rfl, ⟨hA g (by simp [Value.ownBlock]), fun a n c e => by cases e; omega⟩, ?_⟩⟩
    have := hcs i _ (bc_at hi)
    rwa [show 0 + i * 1 = 0 + i from by omega]
/-- The bound that is kept in keyBuf is written anew. -/
theorem MS.ext (hit : IterOK Try.prog χ W t v0 I) (M : MS W I t v0 cm c cb d cur q Fin F G h sp z sv ev a ksv kbv xk nb xb) {kb0 : Value} (hk0 : kb0.ownBlock = kbv.ownBlock) {s : ByteArray} (O : Own h1 0 u8T 1 kbv' s.data.toList.length (byteCells s.data.toList)) (K1 : Keep kb0.ownBlock.toList h h1)
    (F1 : kbv'.ownBlock = kb0.ownBlock ∨ kbv'.ownBlock = some h.size) (K2 : Keep [cb] h1 h2) (B2 : Blk h2 cb [a, ksv, kbv'] bufT) (K3 : Keep [c] h2 h3) (sv' ev' : Value) (hsv : (if d then sv' = sv ∧ ev' = kbv' else sv' = kbv' ∧ ev' = ev))
    (B3 : Blk h3 c (dL cb cm eqF (.iface t v0) sp z sv' ev' ksv mthV redF) dfT) :
    MS W I t v0 cm c cb d (if d then ⟨cur.s, s, cur.ks⟩ else ⟨s, cur.e, cur.ks⟩) q Fin (fun b => F b ∨ b ∈ kbv'.ownBlock.toList) G h3 sp z sv' ev' a ksv kbv' xk s.data.toList.length (byteCells s.data.toList) ∧ KeepP F h h3 ∧ ∀ b, b ∈ kbv'.ownBlock.toList → F b ∨ h.size ≤ b := by
  rw [hk0] at K1 F1
  have hcl := M.ds.bc.lt; have hbl := M.ds.bb.lt
  have z1 := K1.1; have z2 := K2.1; have z3 := K3.1
  have hnb : ∀ b, b ∈ kbv'.ownBlock.toList → b ∈ kbv.ownBlock.toList ∨ b = h.size := fun b hb => by
    rcases F1 with e | e
    · rw [e] at hb; exact .inl hb
    · rw [e] at hb; simp at hb; exact .inr hb
  have hcc : c ∉ kbv.ownBlock.toList := fun hm => (M.ds.di.b1 c hm).1 rfl
  have hcbb : cb ∉ kbv.ownBlock.toList := fun hm => (M.ds.di.b1 cb hm).2.1 rfl
  have hne := M.ds.di.ne
  -- what stays, of all that lies apart of c, cb and the row
  have keep : ∀ b, b < h.size → b ≠ c → b ≠ cb → b ∉ kbv.ownBlock.toList → h3[b]? = h[b]? := fun b hb n1 n2 n3 =>
    (K3.2 b (by omega) (by simpa using n1)).trans ((K2.2 b (by omega) (by simpa using n2)).trans (K1.2 b hb n3))
  have hnF : ∀ b, Fin b → b ≠ c ∧ b ≠ cb ∧ b ∉ kbv.ownBlock.toList := fun b hb => ⟨fun e => by subst e; exact M.ds.di.fc hb, fun e => by subst e; exact M.ds.di.fb hb, fun hm => (M.ds.di.b1 b hm).2.2.1 hb⟩
  have sF : Stab Fin h h3 := fun b hb => keep b (M.ds.lo b (M.ds.ff b hb)) (hnF b hb).1 (hnF b hb).2.1 (hnF b hb).2.2
  have sG : Stab G h h3 := fun b hb => by
    obtain ⟨p1, p2, p3, p4, p5, p6, p7⟩ := M.g b hb
    exact keep b p1 p2 p3 p6
  have hak : ∀ x, x ∈ a.ownBlock.toList → x ≠ c ∧ x ≠ cb ∧ x ∉ kbv.ownBlock.toList := fun x hx => ⟨(M.ds.di.a1 x hx).1, (M.ds.di.a1 x hx).2.1, fun hm => (M.ds.di.b1 x hm).2.2.2.1 hx⟩
  have hA : Aren h3 a := by
    rcases M.ds.ar with e | ⟨g, n, c', cs, e, q1, q2, q3, B⟩
    · exact .inl e
    · have hg := hak g (by rw [e]; simp [Value.ownBlock])
      exact .inr ⟨g, n, c', cs, e, q1, q2, q3, (keep g B.lt hg.1 hg.2.1 hg.2.2).trans B⟩
  have hO : Own h3 0 keyT 3 ksv cur.ks.length xk :=
    ((M.ds.ok.keep2 K1 (fun x hx hm => (M.ds.di.b1 x hm).2.2.2.2 hx)).keep2 K2 (fun x hx hm => (M.ds.di.k1 x hx).2.1 (by simpa using hm))).keep2 K3 (fun x hx hm => (M.ds.di.k1 x hx).1 (by simpa using hm))
  have hkn : ∀ x, x ∈ kbv'.ownBlock.toList → x ≠ c ∧ x ≠ cb ∧ ¬ Fin x ∧ x ∉ a.ownBlock.toList ∧ x ∉ ksv.ownBlock.toList := fun x hx => by
    rcases hnb x hx with e | e
    · exact M.ds.di.b1 x e
    · subst e
      exact ⟨by omega, by omega, fun hf => by have := M.ds.lo _ (M.ds.ff _ hf); omega, fun hm => by have := M.ds.ar.low _ hm; omega, fun hm => by have := (own_ne M.ds.ok _ hm).2; omega⟩
  have hO3 : Own h3 0 u8T 1 kbv' s.data.toList.length (byteCells s.data.toList) := (O.keep2 K2 (fun x hx hm => (hkn x hx).2.1 (by simpa using hm))).keep2 K3 (fun x hx hm => (hkn x hx).1 (by simpa using hm))
  have hFn : ∀ b, b ∈ kbv'.ownBlock.toList → F b ∨ h.size ≤ b := fun b hb => by
    rcases hnb b hb with e | e
    · exact .inl (M.ds.fo b e)
    · exact .inr (by omega)
  have D : DSt W I t v0 cm c cb q Fin (fun b => F b ∨ b ∈ kbv'.ownBlock.toList) h3 sp z sv' ev' ksv a ksv kbv' cur.ks.length xk s.data.toList.length (byteCells s.data.toList) :=
    ⟨hit.stab M.ds.it sF (by omega), B3, K3.blk (by simp; exact fun e => hne e.symm) B2, hA, hO, hO3, ⟨hne, M.ds.di.fc, M.ds.di.fb, M.ds.di.a1, M.ds.di.k1, hkn⟩, fun b hb => .inl (M.ds.ff b hb), .inl M.ds.fc, .inl M.ds.fb, fun x hx => .inl (M.ds.fa x hx), fun x hx => .inl (M.ds.fk x hx), fun x hx => .inr hx, fun b hb => by
      rcases hb with hb | hb
      · have := M.ds.lo b hb; omega
      · exact (own_ne hO3 b hb).2⟩
  have hrw : RowsR 3 (cPKey G h3) xk cur.ks := M.rw.mono fun x k hr => cPKey_st.stab _ _ _ _ _ sG hr
  have hg : ∀ b, G b → b < h3.size ∧ b ≠ c ∧ b ≠ cb ∧ ¬ Fin b ∧ b ∉ ksv.ownBlock.toList ∧ b ∉ kbv'.ownBlock.toList ∧ (F b ∨ b ∈ kbv'.ownBlock.toList) := fun b hb => by
    obtain ⟨p1, p2, p3, p4, p5, p6, p7⟩ := M.g b hb
    refine ⟨by omega, p2, p3, p4, p5, fun hm => ?_, .inl p7⟩
    rcases hnb b hm with e | e
    · exact p6 e
    · omega
  refine ⟨?_, ⟨by omega, fun b hb hF => keep b hb (fun e => by subst e; exact hF M.ds.fc) (fun e => by subst e; exact hF M.ds.fb) (fun hm => hF (M.ds.fo b hm))⟩, hFn⟩
  cases d with
  | true =>
    simp only [if_true] at hsv
    obtain ⟨rfl, rfl⟩ := hsv
    refine ⟨D, hrw, ?_, own_bytes hO3 (fun b hb => .inr ⟨rfl, hb⟩), hg⟩
    exact (M.s1.mono (A' := G) (fun b hb => hb.elim id (fun e => by cases e.1))).stab sG |>.mono fun b hb => .inl hb
  | false =>
    simp only [Bool.false_eq_true, if_false] at hsv
    obtain ⟨rfl, rfl⟩ := hsv
    refine ⟨D, hrw, own_bytes hO3 (fun b hb => .inr ⟨rfl, hb⟩), ?_, hg⟩
    exact (M.s2.mono (A' := G) (fun b hb => hb.elim id (fun e => by cases e.1))).stab sG |>.mono fun b hb => .inl hb
/-- After a span has been kept. -/
theorem ms_of_save (hit : IterOK Try.prog χ W t v0 I) {kb2 : Value} (hkb : kb2.ownBlock = kbv.ownBlock) {s : SpanD} {a1 k1 : Value} {xs : List Value} (D : DSt W I t v0 cm c cb q Fin F h sp z sv ev kv a ksv kbv nk xk nb xb)
    (i : SvI c cb a ksv kb2 (dL cb cm eqF (.iface t v0) sp z sv' ev' k1 mthV redF) h s sv' ev' s.ks.length a1 k1 xs G h') (O : Own h' 0 u8T 1 kb2 0 []) (d : Bool) :
    MS W I t v0 cm c cb d s q Fin (fun b => F b ∨ (h.size ≤ b ∧ b < h'.size)) G h' sp z sv' ev' a1 k1 kb2 xs 0 [] ∧ KeepP F h h' ∧ Stab Fin h h' := by
  have hcl := D.bc.lt; have hbl := D.bb.lt
  have hz := i.kp.1
  have hX : ∀ b, Fin b → b ∉ c :: cb :: (a.ownBlock.toList ++ ksv.ownBlock.toList) := fun b hb hm => by
    simp only [List.mem_cons, List.mem_append] at hm
    rcases hm with e | e | e | e
    · subst e; exact D.di.fc hb
    · subst e; exact D.di.fb hb
    · exact (D.di.a1 b e).2.2 hb
    · exact (D.di.k1 b e).2.2.1 hb
  have sF : Stab Fin h h' := i.kp.stab fun b hb => ⟨D.lo b (D.ff b hb), hX b hb⟩
  have hnew : ∀ x, h.size ≤ x → ¬ Fin x := fun x hx hf => by have := D.lo x (D.ff x hf); omega
  have hbkb : ∀ x, x ∈ kb2.ownBlock.toList → x ∈ kbv.ownBlock.toList := fun x hx => by rw [hkb] at hx; exact hx
  have hkbl : ∀ x, x ∈ kb2.ownBlock.toList → x < h.size := fun x hx => (own_ne D.ob x (hbkb x hx)).2
  refine ⟨⟨⟨hit.stab D.it sF hz, i.bc, i.bb, i.ar, i.ow, O, ⟨D.di.ne, D.di.fc, D.di.fb, fun x hx => ?_, fun x hx => ?_, fun x hx => ?_⟩, fun b hb => .inl (D.ff b hb), .inl D.fc, .inl D.fb, fun x hx => ?_, fun x hx => ?_, fun x hx => .inl (D.fo x (hbkb x hx)), fun b hb => ?_⟩,
    by have := i.rw; rw [List.take_length] at this; exact this.mono fun x k hr => hr.pkey, i.b1.bytes.mono fun b hb => .inl hb, i.b2.bytes.mono fun b hb => .inl hb, fun b hb => ?_⟩, i.kp.kp (fun x hx => ?_), sF⟩
  · rcases i.ao x hx with e | e
    · exact D.di.a1 x e
    · exact ⟨by omega, by omega, hnew x e⟩
  · obtain ⟨p1, p2⟩ := i.ko x hx
    rcases p1 with e | e
    · obtain ⟨q1, q2, q3, _⟩ := D.di.k1 x e
      exact ⟨q1, q2, q3, p2⟩
    · exact ⟨by omega, by omega, hnew x e, p2⟩
  · obtain ⟨q1, q2, q3, q4, q5⟩ := D.di.b1 x (hbkb x hx)
    have := hkbl x hx
    refine ⟨q1, q2, q3, fun hm => ?_, fun hm => ?_⟩
    · rcases i.ao x hm with e | e
      · exact q4 e
      · omega
    · rcases (i.ko x hm).1 with e | e
      · exact q5 e
      · omega
  · rcases i.ao x hx with e | e
    · exact .inl (D.fa x e)
    · exact .inr ⟨e, i.ar.low x hx⟩
  · rcases (i.ko x hx).1 with e | e
    · exact .inl (D.fk x e)
    · exact .inr ⟨e, (own_ne i.ow x hx).2⟩
  · rcases hb with hb | hb
    · have := D.lo b hb; omega
    · exact hb.2
  · obtain ⟨p1, p2, p3⟩ := i.g b hb
    rcases p2 with e | e
    · obtain ⟨q1, q2, q3⟩ := D.di.a1 b e
      exact ⟨p1, q1, q2, q3, p3, fun hm => (D.di.b1 b (hbkb b hm)).2.2.2.1 e, .inl (D.fa b e)⟩
    · exact ⟨p1, by omega, by omega, hnew b e, p3, fun hm => by have := hkbl b hm; omega, .inr ⟨e, p1⟩⟩
  · simp only [List.mem_cons, List.mem_append] at hx
    rcases hx with e | e | e | e
    · subst e; exact D.fc
    · subst e; exact D.fb
    · exact D.fa x e
    · exact D.fk x e
end
end Go.Proofs.Ytgebfbnndgjkiaa
namespace Go.Proofs.Ytgebfbnndgjkiaa
open Go.Tess Go.RowKit
set_option maxRecDepth 100000
set_option maxHeartbeats 2000000
theorem v_ine_nil {P : Program} {χ : Chi} {ρ : Operand → Option Value} {h : Heap} {dst : Option Tmp} {ty : TypeId} {pos : String} {after : Array Edge} {guard : Option (Nat × Bool)} {x : Operand} {t t2 : TypeId} (ht : Tess.IsIface P t) (hx : ρ x = some .nilIface) (hy : ρ (.const .nilIface) = some .nilIface) :
    OpV P χ ⟨dst, .binOp .neq t x (.const .nilIface) t2, ty, pos, after, guard⟩ ρ h (.bool false) := by
  intro r d hr
  have e1 := hr x (by simp [Op.operands]) _ hx
  unfold Tess.IsIface at ht
  cases hu : P.underlying t with
  | none => rw [hu] at ht; simp at ht
  | some d' =>
    rw [hu] at ht
    cases d' <;> first | (simp at ht; done) | skip
    have : (Op.equal t .nilIface .nilIface).run P (mkw χ h d) = .ok true (mkw χ h d) := run_equal' (fun d => by simp [Op.equalIn, run_underlying hu])
    have e2 := hr (.const .nilIface) (by simp [Op.operands]) _ hy
    simp [execOp, e1, e2, eqGuard, binOp, this]
theorem ret_pt {W : List SpanD} {i : Nat} {Fin : Nat → Prop} {h : Heap} {r : Value} (hr : Ret W (.pt i) Fin h r) (hi : i < W.length) : ∃ b o, r = .pointer (some ⟨b, o, none⟩) ∧ Fin b ∧ PSpan Fin h b o (nth W i) := by
  unfold Ret at hr
  rw [show cur W (.pt i) = some (nth W i) from nth_some hi] at hr
  exact hr
theorem ret_nxt {W : List SpanD} {b : Nat} {Fin : Nat → Prop} {h : Heap} {qv : Option Addr} (hr : Ret W (nxtP W b) Fin h (.pointer qv)) : (qv = none ∧ ¬ b < W.length) ∨ (b < W.length ∧ ∃ x o, qv = some ⟨x, o, none⟩ ∧ Fin x ∧ PSpan Fin h x o (nth W b)) := by
  unfold nxtP at hr
  by_cases hb : b < W.length
  · rw [if_pos hb] at hr
    obtain ⟨x, o, e, h1, h2⟩ := ret_pt hr hb
    cases e
    exact .inr ⟨hb, x, o, rfl, h1, h2⟩
  · rw [if_neg hb] at hr
    have : Value.pointer qv = .pointer none := hr
    cases this
    exact .inl ⟨rfl, hb⟩
theorem ret_prv {W : List SpanD} {a : Nat} {Fin : Nat → Prop} {h : Heap} {qv : Option Addr} (ha : a ≤ W.length) (hr : Ret W (prvP a) Fin h (.pointer qv)) : (qv = none ∧ a = 0) ∨ (0 < a ∧ ∃ x o, qv = some ⟨x, o, none⟩ ∧ Fin x ∧ PSpan Fin h x o (nth W (a - 1))) := by
  unfold prvP at hr
  by_cases hb : a = 0
  · rw [if_pos hb] at hr
    have : Value.pointer qv = .pointer none := hr
    cases this
    exact .inl ⟨rfl, hb⟩
  · rw [if_neg hb] at hr
    obtain ⟨x, o, e, h1, h2⟩ := ret_pt hr (i := a - 1) (by omega)
    cases e
    exact .inr ⟨by omega, x, o, rfl, h1, h2⟩
/-- What the lists are that may be joined. -/
def GoodD (W : List SpanD) : Prop := ∀ s, s ∈ W → s.ks ≠ [] ∧ SmS s
/-- After joining forward, back. -/
def FwdP (W : List SpanD) (I : ItI) (t : TypeId) (v0 cm : Value) (c cb : Nat) (F : Nat → Prop) (i : Nat) (h : Heap) (r : Value) (h' : Heap) : Prop :=
  ∃ b Fin' F' sp sv ev kv a ksv kbv nk xk nb xb, IsRun W i b ∧ EndB W b ∧ DSt W I t v0 cm c cb (nxtP W b) Fin' F' h' sp 1 sv ev kv a ksv kbv nk xk nb xb ∧ Ret W (nxtP W b) Fin' h' sp ∧ r = .pointer (some ⟨c, 6, none⟩) ∧ PSpan F' h' c 6 (jspan W i b) ∧ KeepP F h h' ∧ ∀ b, F' b → F b ∨ h.size ≤ b
def BwdP (W : List SpanD) (I : ItI) (t : TypeId) (v0 cm : Value) (c cb : Nat) (F : Nat → Prop) (i : Nat) (h : Heap) (r : Value) (h' : Heap) : Prop :=
  ∃ b Fin' F' sp sv ev kv a ksv kbv nk xk nb xb, IsRun W b (i + 1) ∧ BegB W b ∧ DSt W I t v0 cm c cb (prvP b) Fin' F' h' sp (-1) sv ev kv a ksv kbv nk xk nb xb ∧ Ret W (prvP b) Fin' h' sp ∧ r = .pointer (some ⟨c, 6, none⟩) ∧ PSpan F' h' c 6 (jspan W b (i + 1)) ∧ KeepP F h h' ∧ ∀ b, F' b → F b ∨ h.size ≤ b
theorem c_defragmentForward {χ : Chi} {W : List SpanD} {I : ItI} {t : TypeId} {v0 cm : Value} {c cb i : Nat} {Fin F : Nat → Prop} {h : Heap} {sp : Value} {z : Int} {sv ev kv a ksv kbv : Value} {nk : Nat} {xk : List Value} {nb : Nat} {xb : List Value}
    (hit : IterOK Try.prog χ W t v0 I) (hgood : GoodD W) (D : DSt W I t v0 cm c cb (.pt i) Fin F h sp z sv ev kv a ksv kbv nk xk nb xb) (hi : i < W.length) (hsp : Ret W (.pt i) Fin h sp) :
    Cl Try.prog χ 150 #[.pointer (some ⟨c, 0, none⟩)] h (FwdP W I t v0 cm c cb F i h) := by
  obtain ⟨bi, oi, rfl, hbi, hps⟩ := ret_pt hsp hi
  obtain ⟨xa, na, ca, rfl, _, _⟩ := D.ar.form
  obtain ⟨ak, ck, rfl⟩ := Own.form3 D.ok
  obtain ⟨ab, cb2, rfl⟩ := Own.form3 D.ob
  have hps0 := hps
  obtain ⟨ss, se, sk, _, hcs, _, _, hk3⟩ := hps0
  obtain ⟨ka, kc, rfl⟩ := SlR.form2 hk3
  have hg := hgood (nth W i) (nth_mem hi)
  have hne0 : decide (((nth W i).ks.length : Int) = 0) = false := by simp; exact hg.1
  have hcF : ∀ x, x ∈ [c] → F x := fun x hx => by rw [List.mem_singleton] at hx; subst hx; exact D.fc
  have hbF : ∀ x, x ∈ [cb] → F x := fun x hx => by rw [List.mem_singleton] at hx; subst hx; exact D.fb
  have Bc := D.bc
  have Bb := D.bb
  refine cl_intro Try.func150 rfl rfl rfl ?_
  have K : Keep [] h h := Keep.refl _ _
  refine tr_seq ?_
  refine tr_reg ?_
  refine rs_v (v_assign rfl) rfl ?_
  refine rs_nil ?_
  refine q_thn ?_
  refine tr_seq ?_
  refine tr_seq ?_
  refine tr_reg ?_
  refine rs_v (v_move rfl) rfl ?_
  refine rs_v (v_nilCheck_ptr rfl) rfl ?_
  refine rs_v (v_fieldAddr fa_keyspan_DefragmentingIter_4 rfl) rfl ?_
  refine rs_v (v_load one_p_keyspan_Span rfl (by exact Bc.cell _ rfl)) rfl ?_
  refine rs_w (w_call (vs := [_]) ok_keyspan_Span_Empty rfl ⟨rfl, trivial⟩ (c_Empty χ _ bi oi ka _ kc (hcs.at 2 rfl))) rfl ?_
  rintro _ h1 ⟨rfl, hsame⟩; have hsame := hsame.symm; subst hsame
  refine rs_nil ?_
  refine q_thn ?_
  refine tr_if_f (lkb hne0) ?_
  refine tr_skip ?_
  refine q_thn ?_
  refine tr_seq ?_
  refine tr_reg ?_
  refine rs_v (v_move rfl) rfl ?_
  refine rs_w (w_call (vs := [_]) ok_keyspan_DefragmentingIter_saveCurrent rfl ⟨rfl, trivial⟩ (c_saveCurrent χ _ c cb cm eqF (.iface t v0) z sv ev kv mthV redF xa na ca ak nk ck ab nb cb2 xk xb Fin bi oi (nth W i) Bc Bb D.ar D.ok D.ob hps hbi (fun b hb => D.lo b (D.ff b hb)) D.di hg.2)) rfl ?_
  rintro _ h2 ⟨rfl, sv1, ev1, a1, k1, xs1, G, hi1, hO1⟩
  obtain ⟨M, KP, _⟩ := ms_of_save hit own_cut D hi1 hO1 true
  have hFF : ∀ b, (F b ∨ (h.size ≤ b ∧ b < (h2).size)) → F b ∨ h.size ≤ b := fun b hb => hb.imp id (fun e => e.1)
  obtain ⟨as0, cs0, rfl⟩ := SlR.form2 M.s1
  obtain ⟨ae0, ce0, rfl⟩ := SlR.form2 M.s2
  obtain ⟨ak0, ck0, rfl⟩ := Own.form3 M.ds.ok
  have Bc := M.ds.bc
  have Bb := M.ds.bb
  refine rs_nil ?_
  refine q_thn ?_
  refine tr_seq ?_
  refine tr_reg ?_
  refine rs_v (v_move rfl) rfl ?_
  refine rs_v (v_nilCheck_ptr rfl) rfl ?_
  refine rs_v (v_fieldAddr fa_keyspan_DefragmentingIter_5 rfl) rfl ?_
  refine rs_w0 (w_put siz_keyspan_iterPos rfl rfl rfl rfl Bc rfl) ?_
  rintro _ h3 ⟨B3, K3⟩
  have M := M.putC hit (sp' := .pointer (some ⟨bi, oi, none⟩)) (z' := 1) K3 B3
  have KP := KP.trans (K3.kp hcF) (fun _ h => .inl h)
  have Bc := M.ds.bc
  have Bb := M.ds.bb
  refine rs_nil ?_
  refine q_thn ?_
  refine tr_seq ?_
  refine tr_reg ?_
  refine rs_v (v_move rfl) rfl ?_
  refine rs_v (v_move rfl) rfl ?_
  refine rs_v (v_nilCheck_ptr rfl) rfl ?_
  refine rs_v (v_fieldAddr fa_keyspan_DefragmentingIter_3 rfl) rfl ?_
  refine rs_v (v_load one_keyspan_FragmentIterator rfl (by exact Bc.cell _ rfl)) rfl ?_
  refine rs_w (w_mcall (vs := []) (hit.next M.ds.it rfl) rfl trivial) rfl ?_
  rintro r4 h4 hp4
  rw [show pNext W (.pt i) = (nxtP W (i + 1)) from rfl] at hp4
  have MFF := M.ds.ff
  obtain ⟨Fin2, M, hF2, KF2, hret2⟩ := M.inner hit hp4
  obtain ⟨qv2, rfl, _⟩ := hret2.form
  have hKz := KP.1
  have hFF2 : ∀ b, _ → F b ∨ h.size ≤ b := fun b hb => Or.elim hb (hFF b) (fun e => (hF2 b e).elim (fun e9 => hFF b (MFF b e9)) (fun e9 => Or.inr (by omega)))
  have KP := KP.trans KF2 hFF
  have hFF := hFF2
  have hlo2 : ∀ b, Fin2 b → b < (h4).size := fun b hb => M.ds.lo b (M.ds.ff b hb)
  have Bc := M.ds.bc
  have Bb := M.ds.bb
  refine rs_v (v_nilCheck_ptr rfl) rfl ?_
  refine rs_v (v_fieldAddr fa_keyspan_DefragmentingIter_4 rfl) rfl ?_
  refine rs_w0 (w_put siz_p_keyspan_Span rfl rfl rfl rfl Bc rfl) ?_
  rintro _ h5 ⟨B5, K5⟩
  have M := M.putC hit (sp' := .pointer qv2) (z' := 1) K5 B5
  have hret1 := Ret.stab hret2 (K5.stab (A := Fin2) fun b hb => ⟨by have := hlo2 b hb; omega, fun hm => M.ds.di.fc (by rw [List.mem_singleton] at hm; subst hm; exact hb)⟩)
  have KP := KP.trans (K5.kp hcF) (fun _ h => .inl h)
  have Bc := M.ds.bc
  have Bb := M.ds.bb
  refine rs_nil ?_
  refine q_thn ?_
  refine tr_seq ?_
  refine tr_block ?_
  refine tr_loop (fun m E h' => ∃ b Fin1 F1 G1 sv ev a ksv kbv xs nb xb qv, IsRun W i b ∧ m = (W.length - b) ∧ E = [(0, .pointer (some ⟨c, 0, none⟩))] ∧ MS W I t v0 cm c cb true (jspan W i b) (nxtP W b) Fin1 F1 G1 h' (.pointer qv) 1 sv ev a ksv kbv xs nb xb ∧ Ret W (nxtP W b) Fin1 h' (.pointer qv) ∧ KeepP F h h' ∧ (∀ b, F1 b → F b ∨ h.size ≤ b)) (W.length - (i + 1)) [(0, _)] ⟨rfl, trivial⟩ ⟨(i + 1), _, _, _, _, _, _, _, _, _, _, _, _, run_one hi, rfl, rfl, M, hret1, KP, hFF⟩ ?_
  rintro m E hL6 ⟨b, Fin1, F1, G1, sv1, ev1, a1, ksv1, kbv1, xs1, nb1, xb1, qv, hrun, rfl, rfl, M, hret, KP, hFF⟩
  obtain ⟨xa1, na1, ca1, rfl, _, _⟩ := M.ds.ar.form
  obtain ⟨ak1, ck1, rfl⟩ := Own.form3 M.ds.ok
  obtain ⟨ab1, cb1, rfl⟩ := Own.form3 M.ds.ob
  obtain ⟨as1, cs1, rfl⟩ := SlR.form2 M.s1
  obtain ⟨ae1, ce1, rfl⟩ := SlR.form2 M.s2
  have Bc := M.ds.bc
  have Bb := M.ds.bb
  have hrl := hrun.1
  have hrl2 := hrun.2.1
  have hqq := ret_nxt hret
  refine tr_seq ?_
  refine tr_seq ?_
  refine tr_reg ?_
  refine rs_v (v_move rfl) rfl ?_
  refine rs_v (v_nilCheck_ptr rfl) rfl ?_
  refine rs_v (v_fieldAddr fa_keyspan_DefragmentingIter_4 rfl) rfl ?_
  refine rs_v (v_load one_p_keyspan_Span rfl (by exact Bc.cell _ rfl)) rfl ?_
  refine rs_v (v_pne u_p_keyspan_Span rfl rfl) rfl ?_
  refine rs_nil ?_
  refine q_thn ?_
  refine tr_ifn rfl (fun hif => ?_) (fun hif => ?_)
  · -- no
    have hend : EndB W b := by
      rcases hqq with ⟨rfl, hb⟩ | ⟨hb, x2, o2, rfl, _⟩
      · exact .inl (by omega)
      · simp at hif
    refine tr_exit ?_
    refine q_thn_exit ?_
    refine q_lp_exit ?_
    refine q_blk_hit ?_
    refine q_thn ?_
    refine tr_seq ?_
    refine tr_seq ?_
    refine tr_reg ?_
    refine rs_v (v_move rfl) rfl ?_
    refine rs_v (v_nilCheck_ptr rfl) rfl ?_
    refine rs_v (v_fieldAddr fa_keyspan_DefragmentingIter_3 rfl) rfl ?_
    refine rs_v (v_load one_keyspan_FragmentIterator rfl (by exact Bc.cell _ rfl)) rfl ?_
    refine rs_w (w_mcall (vs := []) (hit.err M.ds.it) rfl trivial) rfl ?_
    rintro _ h7 ⟨rfl, hsame⟩; have hsame := hsame.symm; subst hsame
    refine rs_v (v_ine_nil isi_error rfl rfl) rfl ?_
    refine rs_nil ?_
    refine q_thn ?_
    refine tr_if_f rfl ?_
    refine tr_skip ?_
    refine q_thn ?_
    refine tr_seq ?_
    refine tr_reg ?_
    refine rs_v (v_move rfl) rfl ?_
    refine rs_v (v_move rfl) rfl ?_
    refine rs_v (v_nilCheck_ptr rfl) rfl ?_
    refine rs_v (v_fieldAddr fa_keyspan_DefragmentingIter_0 rfl) rfl ?_
    refine rs_v (v_load one_p_keyspan_DefragmentingBuffers rfl (by exact Bc.cell _ rfl)) rfl ?_
    refine rs_v (v_nilCheck_ptr rfl) rfl ?_
    refine rs_v (v_fieldAddr fa_keyspan_DefragmentingBuffers_1 rfl) rfl ?_
    refine rs_v (v_load one_sl_keyspan_Key rfl (by exact Bb.cell _ rfl)) rfl ?_
    refine rs_v (v_nilCheck_ptr rfl) rfl ?_
    refine rs_v (v_fieldAddr fa_keyspan_DefragmentingIter_6 rfl) rfl ?_
    refine rs_v (v_fieldAddr fa_keyspan_Span_2 rfl) rfl ?_
    refine rs_w0 (w_put siz_sl_keyspan_Key rfl rfl rfl rfl Bc rfl) ?_
    rintro _ h8 ⟨B8, K8⟩
    have hret := Ret.stab hret (K8.stab (A := Fin1) fun b hb => ⟨M.ds.lo b (M.ds.ff b hb), fun hm => M.ds.di.fc (by rw [List.mem_singleton] at hm; subst hm; exact hb)⟩)
    have M := M.putC hit (sp' := .pointer qv) (z' := 1) K8 B8
    have KP := KP.trans (K8.kp hcF) (fun _ h => .inl h)
    refine rs_nil ?_
    refine q_thn ?_
    refine tr_seq ?_
    refine tr_reg ?_
    refine rs_v (v_move rfl) rfl ?_
    refine rs_v (v_nilCheck_ptr rfl) rfl ?_
    refine rs_v (v_fieldAddr fa_keyspan_DefragmentingIter_6 rfl) rfl ?_
    refine rs_v (v_assign rfl) rfl ?_
    refine rs_nil ?_
    refine q_thn ?_
    refine tr_ret ?_
    refine q_ret (res_tmp rfl rfl) ?_
    exact ⟨b, Fin1, F1, _, _, _, _, _, _, _, _, _, _, _, hrun, hend, M.ds, hret, rfl, M.pspan, KP, hFF⟩
  -- yes
  rcases hqq with ⟨rfl, _⟩ | ⟨hb, x2, o2, rfl, hFb2, hps2⟩
  · simp at hif
  have hps20 := hps2
  obtain ⟨ss2, se2, sk2, _, hcs2, hr1, hr2, hr3⟩ := hps2
  obtain ⟨yk, ck2, rfl⟩ := SlR.form2 hr3
  obtain ⟨ys, cys, rfl⟩ := SlR.form2 hr1
  obtain ⟨ye, cye, rfl, hsrc⟩ := RBytes.cellsAt hr2
  have hkk0 : (nth W (b - 1)).ks = (jspan W i b).ks := run_ks hrun (b - 1) (by omega) (by omega)
  have hq1 : (nxtP W b) = .pt b := if_pos hb
  have hg2 := hgood (nth W b) (nth_mem (by omega))
  have hcks : (jspan W i b).ks ≠ [] := (hgood (nth W i) (nth_mem (by omega))).1
  refine tr_skip ?_
  refine q_thn ?_
  refine tr_block ?_
  refine tr_seq ?_
  refine tr_seq ?_
  refine tr_quiet (by kernel_rfl) (by kernel_rfl) ?_
  refine rq_v (v_move rfl) ?_
  refine rq_v (v_nilCheck_ptr rfl) ?_
  refine rq_v (v_fieldAddr fa_keyspan_DefragmentingIter_2 rfl) ?_
  refine rq_v (v_load one_base_Equal rfl (by exact Bc.cell _ rfl)) ?_
  refine rq_v (v_move rfl) ?_
  refine rq_v (v_nilCheck_ptr rfl) ?_
  refine rq_v (v_fieldAddr fa_keyspan_DefragmentingIter_6 rfl) ?_
  refine rq_v (v_fieldAddr fa_keyspan_Span_1 rfl) ?_
  refine rq_v (v_load one_sl_uint8 rfl (by exact Bc.cell _ rfl)) ?_
  refine rq_v (v_move rfl) ?_
  refine rq_v (v_nilCheck_ptr rfl) ?_
  refine rq_v (v_fieldAddr fa_keyspan_DefragmentingIter_4 rfl) ?_
  refine rq_v (v_load one_p_keyspan_Span rfl (by exact Bc.cell _ rfl)) ?_
  refine rq_v (v_nilCheck_ptr rfl) ?_
  refine rq_v (v_fieldAddr fa_keyspan_Span_0 rfl) ?_
  refine rq_v (v_load one_sl_uint8 rfl (by exact hcs2.at 0 rfl)) ?_
  refine rq_w (w_callv (first := []) (cap := []) (vs := [_, _]) ok_bytes_Equal rfl ⟨rfl, rfl, trivial⟩ (c_bytesEqual χ _ _ _ (jspan W i b).e _ (RBytes.by M.s2) (RBytes.by hr1))) ?_
  refine rq_v (v_not rfl) ?_
  refine rm_end ?_; simp only [endM, hypF, ofE, argE]
  refine q_thn ?_
  refine tr_if rfl (fun hif => ?_) (fun hif => ?_)
  · -- yes
    have hend : EndB W b := .inr (by
      cases hq : jn (nth W (b - 1)) (nth W b) with
      | false => rfl
      | true =>
        have h9 := (jn_iff.1 hq).1
        have h8 : seq' (jspan W i b).e (nth W b).s = true := seq_iff.2 h9
        rw [h8] at hif; simp at hif)
    refine tr_exit ?_
    refine q_thn_exit ?_
    refine q_blk_miss rfl ?_
    refine q_lp_exit ?_
    refine q_blk_hit ?_
    refine q_thn ?_
    refine tr_seq ?_
    refine tr_seq ?_
    refine tr_reg ?_
    refine rs_v (v_move rfl) rfl ?_
    refine rs_v (v_nilCheck_ptr rfl) rfl ?_
    refine rs_v (v_fieldAddr fa_keyspan_DefragmentingIter_3 rfl) rfl ?_
    refine rs_v (v_load one_keyspan_FragmentIterator rfl (by exact Bc.cell _ rfl)) rfl ?_
    refine rs_w (w_mcall (vs := []) (hit.err M.ds.it) rfl trivial) rfl ?_
    rintro _ h9 ⟨rfl, hsame⟩; have hsame := hsame.symm; subst hsame
    refine rs_v (v_ine_nil isi_error rfl rfl) rfl ?_
    refine rs_nil ?_
    refine q_thn ?_
    refine tr_if_f rfl ?_
    refine tr_skip ?_
    refine q_thn ?_
    refine tr_seq ?_
    refine tr_reg ?_
    refine rs_v (v_move rfl) rfl ?_
    refine rs_v (v_move rfl) rfl ?_
    refine rs_v (v_nilCheck_ptr rfl) rfl ?_
    refine rs_v (v_fieldAddr fa_keyspan_DefragmentingIter_0 rfl) rfl ?_
    refine rs_v (v_load one_p_keyspan_DefragmentingBuffers rfl (by exact Bc.cell _ rfl)) rfl ?_
    refine rs_v (v_nilCheck_ptr rfl) rfl ?_
    refine rs_v (v_fieldAddr fa_keyspan_DefragmentingBuffers_1 rfl) rfl ?_
    refine rs_v (v_load one_sl_keyspan_Key rfl (by exact Bb.cell _ rfl)) rfl ?_
    refine rs_v (v_nilCheck_ptr rfl) rfl ?_
    refine rs_v (v_fieldAddr fa_keyspan_DefragmentingIter_6 rfl) rfl ?_
    refine rs_v (v_fieldAddr fa_keyspan_Span_2 rfl) rfl ?_
    refine rs_w0 (w_put siz_sl_keyspan_Key rfl rfl rfl rfl Bc rfl) ?_
    rintro _ h10 ⟨B10, K10⟩
    have hret := Ret.stab hret (K10.stab (A := Fin1) fun b hb => ⟨M.ds.lo b (M.ds.ff b hb), fun hm => M.ds.di.fc (by rw [List.mem_singleton] at hm; subst hm; exact hb)⟩)
    have M := M.putC hit (sp' := .pointer (some ⟨x2, o2, none⟩)) (z' := 1) K10 B10
    have KP := KP.trans (K10.kp hcF) (fun _ h => .inl h)
    refine rs_nil ?_
    refine q_thn ?_
    refine tr_seq ?_
    refine tr_reg ?_
    refine rs_v (v_move rfl) rfl ?_
    refine rs_v (v_nilCheck_ptr rfl) rfl ?_
    refine rs_v (v_fieldAddr fa_keyspan_DefragmentingIter_6 rfl) rfl ?_
    refine rs_v (v_assign rfl) rfl ?_
    refine rs_nil ?_
    refine q_thn ?_
    refine tr_ret ?_
    refine q_ret (res_tmp rfl rfl) ?_
    exact ⟨b, Fin1, F1, _, _, _, _, _, _, _, _, _, _, _, hrun, hend, M.ds, hret, rfl, M.pspan, KP, hFF⟩
  -- no
  have heq := seq_iff.1 (show seq' (jspan W i b).e (nth W b).s = true from by simpa using hif)
  refine tr_skip ?_
  refine q_thn ?_
  refine tr_seq ?_
  refine tr_seq ?_
  refine tr_quiet (by kernel_rfl) (by kernel_rfl) ?_
  refine rq_v (v_move rfl) ?_
  refine rq_v (v_move rfl) ?_
  refine rq_v (v_nilCheck_ptr rfl) ?_
  refine rq_v (v_fieldAddr fa_keyspan_DefragmentingIter_4 rfl) ?_
  refine rq_v (v_load one_p_keyspan_Span rfl (by exact Bc.cell _ rfl)) ?_
  refine rq_v (v_move rfl) ?_
  refine rq_v (v_nilCheck_ptr rfl) ?_
  refine rq_v (v_fieldAddr fa_keyspan_DefragmentingIter_6 rfl) ?_
  refine rq_w (w_call (vs := [_, _, _]) ok_keyspan_DefragmentingIter_checkEqual rfl ⟨rfl, rfl, rfl, trivial⟩ (c_checkEqual χ _ Fin1 F1 c x2 o2 (nth W b) (jspan W i b) _ _ _ _ _ _ _ _ _ Bc hps20 M.pspan hg2.2.2.2.1 hg2.1 hcks)) ?_
  refine rq_v (v_not rfl) ?_
  refine rm_end ?_; simp only [endM, hypF, ofE, argE]
  refine q_thn ?_
  refine tr_if rfl (fun hif => ?_) (fun hif => ?_)
  · -- yes
    have hend : EndB W b := .inr (by
      cases hq : jn (nth W (b - 1)) (nth W b) with
      | false => rfl
      | true =>
        have h9 := (jn_iff.1 hq).2
        have h8 : keysEq (nth W b).ks (jspan W i b).ks = true := keysEq_iff.2 (h9.symm.trans hkk0)
        rw [h8] at hif; simp at hif)
    refine tr_exit ?_
    refine q_thn_exit ?_
    refine q_blk_miss rfl ?_
    refine q_lp_exit ?_
    refine q_blk_hit ?_
    refine q_thn ?_
    refine tr_seq ?_
    refine tr_seq ?_
    refine tr_reg ?_
    refine rs_v (v_move rfl) rfl ?_
    refine rs_v (v_nilCheck_ptr rfl) rfl ?_
    refine rs_v (v_fieldAddr fa_keyspan_DefragmentingIter_3 rfl) rfl ?_
    refine rs_v (v_load one_keyspan_FragmentIterator rfl (by exact Bc.cell _ rfl)) rfl ?_
    refine rs_w (w_mcall (vs := []) (hit.err M.ds.it) rfl trivial) rfl ?_
    rintro _ h11 ⟨rfl, hsame⟩; have hsame := hsame.symm; subst hsame
    refine rs_v (v_ine_nil isi_error rfl rfl) rfl ?_
    refine rs_nil ?_
    refine q_thn ?_
    refine tr_if_f rfl ?_
    refine tr_skip ?_
    refine q_thn ?_
    refine tr_seq ?_
    refine tr_reg ?_
    refine rs_v (v_move rfl) rfl ?_
    refine rs_v (v_move rfl) rfl ?_
    refine rs_v (v_nilCheck_ptr rfl) rfl ?_
    refine rs_v (v_fieldAddr fa_keyspan_DefragmentingIter_0 rfl) rfl ?_
    refine rs_v (v_load one_p_keyspan_DefragmentingBuffers rfl (by exact Bc.cell _ rfl)) rfl ?_
    refine rs_v (v_nilCheck_ptr rfl) rfl ?_
    refine rs_v (v_fieldAddr fa_keyspan_DefragmentingBuffers_1 rfl) rfl ?_
    refine rs_v (v_load one_sl_keyspan_Key rfl (by exact Bb.cell _ rfl)) rfl ?_
    refine rs_v (v_nilCheck_ptr rfl) rfl ?_
    refine rs_v (v_fieldAddr fa_keyspan_DefragmentingIter_6 rfl) rfl ?_
    refine rs_v (v_fieldAddr fa_keyspan_Span_2 rfl) rfl ?_
    refine rs_w0 (w_put siz_sl_keyspan_Key rfl rfl rfl rfl Bc rfl) ?_
    rintro _ h12 ⟨B12, K12⟩
    have hret := Ret.stab hret (K12.stab (A := Fin1) fun b hb => ⟨M.ds.lo b (M.ds.ff b hb), fun hm => M.ds.di.fc (by rw [List.mem_singleton] at hm; subst hm; exact hb)⟩)
    have M := M.putC hit (sp' := .pointer (some ⟨x2, o2, none⟩)) (z' := 1) K12 B12
    have KP := KP.trans (K12.kp hcF) (fun _ h => .inl h)
    refine rs_nil ?_
    refine q_thn ?_
    refine tr_seq ?_
    refine tr_reg ?_
    refine rs_v (v_move rfl) rfl ?_
    refine rs_v (v_nilCheck_ptr rfl) rfl ?_
    refine rs_v (v_fieldAddr fa_keyspan_DefragmentingIter_6 rfl) rfl ?_
    refine rs_v (v_assign rfl) rfl ?_
    refine rs_nil ?_
    refine q_thn ?_
    refine tr_ret ?_
    refine q_ret (res_tmp rfl rfl) ?_
    exact ⟨b, Fin1, F1, _, _, _, _, _, _, _, _, _, _, _, hrun, hend, M.ds, hret, rfl, M.pspan, KP, hFF⟩
  -- no
  have hke := keysEq_iff.1 (show keysEq (nth W b).ks (jspan W i b).ks = true from by simpa using hif)
  have hjn : jn (nth W (b - 1)) (nth W b) = true := jn_iff.2 ⟨heq, hkk0.trans hke.symm⟩
  
  refine tr_skip ?_
  refine q_thn ?_
  refine tr_seq ?_
  have hsm2 := (hgood (nth W b) (nth_mem (by omega))).2
  have hsz2 : ((nth W b).e).data.toList.length ≤ 2147483647 := by rw [ba_size]; exact hsm2.2.1
  have hsrc1 : byteCells ((nth W b).e).data.toList = [] ∨ ∃ g9 o9, ye = some ⟨g9, o9, none⟩ ∧ CellsAt hL6 g9 o9 (byteCells ((nth W b).e).data.toList) := by
    rcases hsrc with e | ⟨g9, o9, e, _, hc⟩
    · exact .inl (by rw [e]; rfl)
    · exact .inr ⟨g9, o9, e, hc⟩
  have hnk : ∀ b, Fin1 b → b ∉ (Value.slice ab1 0 cb1).ownBlock.toList := fun b hb hm => (M.ds.di.b1 b (mem_cut hm)).2.2.1 hb
  refine tr_draw [(true, 20), (false, 3)] _ (by kernel_rfl) (by kernel_rfl) (by kernel_rfl) ?_
  refine rx_big Same (Keep (Value.slice ab1 0 cb1).ownBlock.toList) same_pre (keep_pre _) (fun a b e => by cases e; exact Keep.refl _ _) ?_
  refine rb_v same_pre (fun h' hk => v_move rfl) ?_
  refine rb_v same_pre (fun h' hk => v_nilCheck_ptr rfl) ?_
  refine rb_v same_pre (fun h' hk => v_fieldAddr fa_keyspan_DefragmentingIter_0 rfl) ?_
  refine rb_v same_pre (fun h' hk => v_load one_p_keyspan_DefragmentingBuffers rfl ((hk.blk (fun hm => (M.ds.di.b1 c (mem_cut hm)).1 rfl) Bc).cell _ rfl)) ?_
  refine rb_v same_pre (fun h' hk => v_move rfl) ?_
  refine rb_v same_pre (fun h' hk => v_nilCheck_ptr rfl) ?_
  refine rb_v same_pre (fun h' hk => v_fieldAddr fa_keyspan_DefragmentingIter_0 rfl) ?_
  refine rb_v same_pre (fun h' hk => v_load one_p_keyspan_DefragmentingBuffers rfl ((hk.blk (fun hm => (M.ds.di.b1 c (mem_cut hm)).1 rfl) Bc).cell _ rfl)) ?_
  refine rb_v same_pre (fun h' hk => v_nilCheck_ptr rfl) ?_
  refine rb_v same_pre (fun h' hk => v_fieldAddr fa_keyspan_DefragmentingBuffers_2 rfl) ?_
  refine rb_v same_pre (fun h' hk => v_load one_sl_uint8 rfl ((hk.blk (fun hm => (M.ds.di.b1 cb (mem_cut hm)).2.1 rfl) Bb).cell _ rfl)) ?_
  refine rb_v same_pre (fun h' hk => v_slice_h (i := 0) u_sl_uint8 siz_uint8 rfl rfl rfl (Nat.zero_le _)) ?_
  refine rb_v same_pre (fun h' hk => v_move rfl) ?_
  refine rb_v same_pre (fun h' hk => v_nilCheck_ptr rfl) ?_
  refine rb_v same_pre (fun h' hk => v_fieldAddr fa_keyspan_DefragmentingIter_4 rfl) ?_
  refine rb_v same_pre (fun h' hk => v_load one_p_keyspan_Span rfl ((hk.blk (fun hm => (M.ds.di.b1 c (mem_cut hm)).1 rfl) Bc).cell _ rfl)) ?_
  refine rb_v same_pre (fun h' hk => v_nilCheck_ptr rfl) ?_
  refine rb_v same_pre (fun h' hk => v_fieldAddr fa_keyspan_Span_1 rfl) ?_
  refine rb_v same_pre (fun h' hk => v_load one_sl_uint8 rfl ((hk.cells (hnk _ hFb2) hcs2).at 1 rfl)) ?_
  refine rb_big (fun v h' => Own h' 0 u8T 1 v ((nth W b).e).data.toList.length (byteCells ((nth W b).e).data.toList) ∧ Keep (Value.slice ab1 0 cb1).ownBlock.toList hL6 h' ∧ (v.ownBlock = (Value.slice ab1 0 cb1).ownBlock ∨ v.ownBlock = some (hL6).size))
    (fun v h1 h2 _ e hr => by cases e; exact hr)
    (fun h' hk => by
      have hk : h' = hL6 := hk
      subst hk
      exact OpW.mono (w_appS (news := byteCells ((nth W b).e).data.toList) u_sl_uint8 info_uint8 rfl rfl rfl (Own.cut0 M.ds.ob) rfl (by rw [bc_len, Nat.mul_one]) hsrc1 bc_one (by omega) (by omega) (Nat.zero_le _)) (fun v h'' hv => by
        obtain ⟨O', K', F'⟩ := hv
        exact ⟨K', by simpa using O', K', F'⟩)) ?_
  refine rb_end ?_; intro ha9 Ka9; simp only [endM, hypF, ofE, argE, List.nil_append]
  intro v19 hv19
  obtain ⟨O10, K10, F10⟩ := hv19
  obtain ⟨ax, cax, rfl⟩ := Own.form3 O10
  have Bb9 := Ka9.blk (fun hm => (M.ds.di.b1 cb (mem_cut hm)).2.1 rfl) Bb
  have Bc9 := Ka9.blk (fun hm => (M.ds.di.b1 c (mem_cut hm)).1 rfl) Bc
  refine rx_seq ?_
  refine rs_v (v_nilCheck_ptr rfl) rfl ?_
  refine rs_v (v_fieldAddr fa_keyspan_DefragmentingBuffers_2 rfl) rfl ?_
  refine rs_w0 (w_put siz_sl_uint8 rfl rfl rfl rfl Bb9 rfl) ?_
  rintro _ h13 ⟨Bb, K10b⟩
  have Bc := K10b.blk (by simp; exact M.ds.di.ne) Bc9
  have B10b : Blk h13 cb [Value.slice xa1 na1 ca1, Value.slice ak1 (jspan W i b).ks.length ck1, Value.slice ax ((nth W b).e).data.toList.length cax] bufT := Bb
  refine rs_nil ?_
  refine q_con ?_
  refine rx_nil ?_
  refine q_thn ?_
  refine tr_seq ?_
  refine tr_reg ?_
  refine rs_v (v_move rfl) rfl ?_
  refine rs_v (v_move rfl) rfl ?_
  refine rs_v (v_nilCheck_ptr rfl) rfl ?_
  refine rs_v (v_fieldAddr fa_keyspan_DefragmentingIter_0 rfl) rfl ?_
  refine rs_v (v_load one_p_keyspan_DefragmentingBuffers rfl (by exact Bc.cell _ rfl)) rfl ?_
  refine rs_v (v_nilCheck_ptr rfl) rfl ?_
  refine rs_v (v_fieldAddr fa_keyspan_DefragmentingBuffers_2 rfl) rfl ?_
  refine rs_v (v_load one_sl_uint8 rfl (by exact Bb.cell _ rfl)) rfl ?_
  refine rs_v (v_nilCheck_ptr rfl) rfl ?_
  refine rs_v (v_fieldAddr fa_keyspan_DefragmentingIter_6 rfl) rfl ?_
  refine rs_v (v_fieldAddr fa_keyspan_Span_1 rfl) rfl ?_
  refine rs_w0 (w_put siz_sl_uint8 rfl rfl rfl rfl Bc rfl) ?_
  rintro _ h14 ⟨B14, K14⟩
  have M0 := M
  obtain ⟨M2, KE, hFE⟩ := M0.ext hit (kb0 := (Value.slice ab1 0 cb1)) own_cut O10 K10 F10 K10b B10b K14 (.slice as1 _ cs1) (.slice ax _ cax) (by simp) B14
  have hcur2 : (if true then (⟨(jspan W i b).s, (nth W b).e, (jspan W i b).ks⟩ : SpanD) else ⟨(nth W b).e, (jspan W i b).e, (jspan W i b).ks⟩) = (jspan W i (b + 1)) := rfl
  have M := M2
  rw [hcur2] at M
  have hcs3 := (show Stab Fin1 _ h14 from fun b hb => by
    rw [show (h14)[b]? = _ from K14.2 b (by have := M0.ds.lo b (M0.ds.ff b hb); have := K10.1; have := K10b.1; omega) (fun hm => M0.ds.di.fc (by rw [List.mem_singleton] at hm; subst hm; exact hb)), K10b.2 b (by have := M0.ds.lo b (M0.ds.ff b hb); have := K10.1; omega) (fun hm => M0.ds.di.fb (by rw [List.mem_singleton] at hm; subst hm; exact hb))]
    exact K10.2 b (M0.ds.lo b (M0.ds.ff b hb)) (hnk b hb)).cells hFb2 hcs2
  have hKz2 := KP.1
  have hFF2 : ∀ y, (F1 y ∨ y ∈ (Value.slice ax ((nth W b).e).data.toList.length cax).ownBlock.toList) → F y ∨ h.size ≤ y := fun y hy => hy.elim (hFF y) (fun e => (hFE y e).elim (hFF y) (fun e9 => Or.inr (by omega)))
  have KP := KP.trans KE hFF
  have hFF := hFF2
  have Bc := M.ds.bc
  have Bb := M.ds.bb
  refine rs_nil ?_
  refine q_thn ?_
  refine tr_seq ?_
  refine tr_draw [(true, 23), (false, 3)] _ (by kernel_rfl) (by kernel_rfl) (by kernel_rfl) ?_
  refine rx_any Same same_pre ?_
  refine rq_v (v_move rfl) ?_
  refine rq_v (v_nilCheck_ptr rfl) ?_
  refine rq_v (v_fieldAddr fa_keyspan_DefragmentingIter_0 rfl) ?_
  refine rq_v (v_load one_p_keyspan_DefragmentingBuffers rfl (by exact Bc.cell _ rfl)) ?_
  refine rq_v (v_move rfl) ?_
  refine rq_v (v_nilCheck_ptr rfl) ?_
  refine rq_v (v_fieldAddr fa_keyspan_DefragmentingIter_8 rfl) ?_
  refine rq_v (v_load one_keyspan_DefragmentReducer rfl (by exact Bc.cell _ rfl)) ?_
  refine rq_v (v_move rfl) ?_
  refine rq_v (v_nilCheck_ptr rfl) ?_
  refine rq_v (v_fieldAddr fa_keyspan_DefragmentingIter_0 rfl) ?_
  refine rq_v (v_load one_p_keyspan_DefragmentingBuffers rfl (by exact Bc.cell _ rfl)) ?_
  refine rq_v (v_nilCheck_ptr rfl) ?_
  refine rq_v (v_fieldAddr fa_keyspan_DefragmentingBuffers_1 rfl) ?_
  refine rq_v (v_load one_sl_keyspan_Key rfl (by exact Bb.cell _ rfl)) ?_
  refine rq_v (v_move rfl) ?_
  refine rq_v (v_nilCheck_ptr rfl) ?_
  refine rq_v (v_fieldAddr fa_keyspan_DefragmentingIter_4 rfl) ?_
  refine rq_v (v_load one_p_keyspan_Span rfl (by exact Bc.cell _ rfl)) ?_
  refine rq_v (v_nilCheck_ptr rfl) ?_
  refine rq_v (v_fieldAddr fa_keyspan_Span_2 rfl) ?_
  refine rq_v (v_load one_sl_keyspan_Key rfl (by exact hcs3.at 2 rfl)) ?_
  refine rq_w (w_callv (first := []) (cap := []) (vs := [_, _]) ok_keyspan_StaticDefragmentReducer rfl ⟨rfl, rfl, trivial⟩ (c_Reduce χ _ _ _)) ?_
  refine rm_end ?_; intro ha15 Ka15; simp only [endM, hypF, ofE, argE, List.nil_append]
  have Ka15 : h14 = ha15 := Eq.symm Ka15
  subst Ka15
  refine rx_seq ?_
  refine rs_v (v_nilCheck_ptr rfl) rfl ?_
  refine rs_v (v_fieldAddr fa_keyspan_DefragmentingBuffers_1 rfl) rfl ?_
  refine rs_w0 (w_put siz_sl_keyspan_Key rfl rfl rfl rfl Bb rfl) ?_
  rintro _ h16 ⟨B16, K16⟩
  have M := M.putB hit K16 B16
  have KP := KP.trans (K16.kp hbF) (fun _ h => .inl h)
  have Bc := M.ds.bc
  have Bb := M.ds.bb
  refine rs_nil ?_
  refine q_con ?_
  refine rx_nil ?_
  refine q_thn ?_
  refine tr_reg ?_
  refine rs_v (v_move rfl) rfl ?_
  refine rs_v (v_move rfl) rfl ?_
  refine rs_v (v_nilCheck_ptr rfl) rfl ?_
  refine rs_v (v_fieldAddr fa_keyspan_DefragmentingIter_3 rfl) rfl ?_
  refine rs_v (v_load one_keyspan_FragmentIterator rfl (by exact Bc.cell _ rfl)) rfl ?_
  refine rs_w (w_mcall (vs := []) (hit.next M.ds.it (by rw [hq1]; rfl)) rfl trivial) rfl ?_
  rintro r17 h17 hp17
  rw [show pNext W (nxtP W b) = (nxtP W (b + 1)) from by rw [hq1]; rfl] at hp17
  have MFF := M.ds.ff
  obtain ⟨Fin2, M, hF2, KF2, hret2⟩ := M.inner hit hp17
  obtain ⟨qv2, rfl, _⟩ := hret2.form
  have hKz := KP.1
  have hFF2 : ∀ b, _ → F b ∨ h.size ≤ b := fun b hb => Or.elim hb (hFF b) (fun e => (hF2 b e).elim (fun e9 => hFF b (MFF b e9)) (fun e9 => Or.inr (by omega)))
  have KP := KP.trans KF2 hFF
  have hFF := hFF2
  have hlo2 : ∀ b, Fin2 b → b < (h17).size := fun b hb => M.ds.lo b (M.ds.ff b hb)
  have Bc := M.ds.bc
  have Bb := M.ds.bb
  refine rs_v (v_nilCheck_ptr rfl) rfl ?_
  refine rs_v (v_fieldAddr fa_keyspan_DefragmentingIter_4 rfl) rfl ?_
  refine rs_w0 (w_put siz_p_keyspan_Span rfl rfl rfl rfl Bc rfl) ?_
  rintro _ h18 ⟨B18, K18⟩
  have M := M.putC hit (sp' := .pointer qv2) (z' := 1) K18 B18
  have hret1 := Ret.stab hret2 (K18.stab (A := Fin2) fun b hb => ⟨by have := hlo2 b hb; omega, fun hm => M.ds.di.fc (by rw [List.mem_singleton] at hm; subst hm; exact hb)⟩)
  have KP := KP.trans (K18.kp hcF) (fun _ h => .inl h)
  have Bc := M.ds.bc
  have Bb := M.ds.bb
  refine rs_nil ?_
  refine q_blk_n ?_
  refine q_lp ((W.length - (b + 1))) [(0, _)] (by omega) ⟨rfl, trivial⟩ ⟨b + 1, _, _, _, _, _, _, _, _, _, _, _, _, run_next hrun hb hjn, rfl, rfl, M, hret1, KP, hFF⟩
theorem c_defragmentBackward {χ : Chi} {W : List SpanD} {I : ItI} {t : TypeId} {v0 cm : Value} {c cb i : Nat} {Fin F : Nat → Prop} {h : Heap} {sp : Value} {z : Int} {sv ev kv a ksv kbv : Value} {nk : Nat} {xk : List Value} {nb : Nat} {xb : List Value}
    (hit : IterOK Try.prog χ W t v0 I) (hgood : GoodD W) (D : DSt W I t v0 cm c cb (.pt i) Fin F h sp z sv ev kv a ksv kbv nk xk nb xb) (hi : i < W.length) (hsp : Ret W (.pt i) Fin h sp) :
    Cl Try.prog χ 151 #[.pointer (some ⟨c, 0, none⟩)] h (BwdP W I t v0 cm c cb F i h) := by
  obtain ⟨bi, oi, rfl, hbi, hps⟩ := ret_pt hsp hi
  obtain ⟨xa, na, ca, rfl, _, _⟩ := D.ar.form
  obtain ⟨ak, ck, rfl⟩ := Own.form3 D.ok
  obtain ⟨ab, cb2, rfl⟩ := Own.form3 D.ob
  have hps0 := hps
  obtain ⟨ss, se, sk, _, hcs, _, _, hk3⟩ := hps0
  obtain ⟨ka, kc, rfl⟩ := SlR.form2 hk3
  have hg := hgood (nth W i) (nth_mem hi)
  have hne0 : decide (((nth W i).ks.length : Int) = 0) = false := by simp; exact hg.1
  have hcF : ∀ x, x ∈ [c] → F x := fun x hx => by rw [List.mem_singleton] at hx; subst hx; exact D.fc
  have hbF : ∀ x, x ∈ [cb] → F x := fun x hx => by rw [List.mem_singleton] at hx; subst hx; exact D.fb
  have Bc := D.bc
  have Bb := D.bb
  refine cl_intro Try.func151 rfl rfl rfl ?_
  have K : Keep [] h h := Keep.refl _ _
  refine tr_seq ?_
  refine tr_reg ?_
  refine rs_v (v_assign rfl) rfl ?_
  refine rs_nil ?_
  refine q_thn ?_
  refine tr_seq ?_
  refine tr_seq ?_
  refine tr_reg ?_
  refine rs_v (v_move rfl) rfl ?_
  refine rs_v (v_nilCheck_ptr rfl) rfl ?_
  refine rs_v (v_fieldAddr fa_keyspan_DefragmentingIter_4 rfl) rfl ?_
  refine rs_v (v_load one_p_keyspan_Span rfl (by exact Bc.cell _ rfl)) rfl ?_
  refine rs_w (w_call (vs := [_]) ok_keyspan_Span_Empty rfl ⟨rfl, trivial⟩ (c_Empty χ _ bi oi ka _ kc (hcs.at 2 rfl))) rfl ?_
  rintro _ h1 ⟨rfl, hsame⟩; have hsame := hsame.symm; subst hsame
  refine rs_nil ?_
  refine q_thn ?_
  refine tr_if_f (lkb hne0) ?_
  refine tr_skip ?_
  refine q_thn ?_
  refine tr_seq ?_
  refine tr_reg ?_
  refine rs_v (v_move rfl) rfl ?_
  refine rs_w (w_call (vs := [_]) ok_keyspan_DefragmentingIter_saveCurrent rfl ⟨rfl, trivial⟩ (c_saveCurrent χ _ c cb cm eqF (.iface t v0) z sv ev kv mthV redF xa na ca ak nk ck ab nb cb2 xk xb Fin bi oi (nth W i) Bc Bb D.ar D.ok D.ob hps hbi (fun b hb => D.lo b (D.ff b hb)) D.di hg.2)) rfl ?_
  rintro _ h2 ⟨rfl, sv1, ev1, a1, k1, xs1, G, hi1, hO1⟩
  obtain ⟨M, KP, _⟩ := ms_of_save hit own_cut D hi1 hO1 false
  have hFF : ∀ b, (F b ∨ (h.size ≤ b ∧ b < (h2).size)) → F b ∨ h.size ≤ b := fun b hb => hb.imp id (fun e => e.1)
  obtain ⟨as0, cs0, rfl⟩ := SlR.form2 M.s1
  obtain ⟨ae0, ce0, rfl⟩ := SlR.form2 M.s2
  obtain ⟨ak0, ck0, rfl⟩ := Own.form3 M.ds.ok
  have Bc := M.ds.bc
  have Bb := M.ds.bb
  refine rs_nil ?_
  refine q_thn ?_
  refine tr_seq ?_
  refine tr_reg ?_
  refine rs_v (v_move rfl) rfl ?_
  refine rs_v (v_nilCheck_ptr rfl) rfl ?_
  refine rs_v (v_fieldAddr fa_keyspan_DefragmentingIter_5 rfl) rfl ?_
  refine rs_w0 (w_put siz_keyspan_iterPos rfl rfl rfl rfl Bc rfl) ?_
  rintro _ h3 ⟨B3, K3⟩
  have M := M.putC hit (sp' := .pointer (some ⟨bi, oi, none⟩)) (z' := (-1)) K3 B3
  have KP := KP.trans (K3.kp hcF) (fun _ h => .inl h)
  have Bc := M.ds.bc
  have Bb := M.ds.bb
  refine rs_nil ?_
  refine q_thn ?_
  refine tr_seq ?_
  refine tr_reg ?_
  refine rs_v (v_move rfl) rfl ?_
  refine rs_v (v_move rfl) rfl ?_
  refine rs_v (v_nilCheck_ptr rfl) rfl ?_
  refine rs_v (v_fieldAddr fa_keyspan_DefragmentingIter_3 rfl) rfl ?_
  refine rs_v (v_load one_keyspan_FragmentIterator rfl (by exact Bc.cell _ rfl)) rfl ?_
  refine rs_w (w_mcall (vs := []) (hit.prev M.ds.it rfl) rfl trivial) rfl ?_
  rintro r4 h4 hp4
  rw [show pPrev W (.pt i) = (prvP i) from rfl] at hp4
  have MFF := M.ds.ff
  obtain ⟨Fin2, M, hF2, KF2, hret2⟩ := M.inner hit hp4
  obtain ⟨qv2, rfl, _⟩ := hret2.form
  have hKz := KP.1
  have hFF2 : ∀ b, _ → F b ∨ h.size ≤ b := fun b hb => Or.elim hb (hFF b) (fun e => (hF2 b e).elim (fun e9 => hFF b (MFF b e9)) (fun e9 => Or.inr (by omega)))
  have KP := KP.trans KF2 hFF
  have hFF := hFF2
  have hlo2 : ∀ b, Fin2 b → b < (h4).size := fun b hb => M.ds.lo b (M.ds.ff b hb)
  have Bc := M.ds.bc
  have Bb := M.ds.bb
  refine rs_v (v_nilCheck_ptr rfl) rfl ?_
  refine rs_v (v_fieldAddr fa_keyspan_DefragmentingIter_4 rfl) rfl ?_
  refine rs_w0 (w_put siz_p_keyspan_Span rfl rfl rfl rfl Bc rfl) ?_
  rintro _ h5 ⟨B5, K5⟩
  have M := M.putC hit (sp' := .pointer qv2) (z' := (-1)) K5 B5
  have hret1 := Ret.stab hret2 (K5.stab (A := Fin2) fun b hb => ⟨by have := hlo2 b hb; omega, fun hm => M.ds.di.fc (by rw [List.mem_singleton] at hm; subst hm; exact hb)⟩)
  have KP := KP.trans (K5.kp hcF) (fun _ h => .inl h)
  have Bc := M.ds.bc
  have Bb := M.ds.bb
  refine rs_nil ?_
  refine q_thn ?_
  refine tr_seq ?_
  refine tr_block ?_
  refine tr_loop (fun m E h' => ∃ b Fin1 F1 G1 sv ev a ksv kbv xs nb xb qv, IsRun W b (i + 1) ∧ m = (b + 1) ∧ E = [(0, .pointer (some ⟨c, 0, none⟩))] ∧ MS W I t v0 cm c cb false (jspan W b (i + 1)) (prvP b) Fin1 F1 G1 h' (.pointer qv) (-1) sv ev a ksv kbv xs nb xb ∧ Ret W (prvP b) Fin1 h' (.pointer qv) ∧ KeepP F h h' ∧ (∀ b, F1 b → F b ∨ h.size ≤ b)) (i + 1) [(0, _)] ⟨rfl, trivial⟩ ⟨i, _, _, _, _, _, _, _, _, _, _, _, _, run_one hi, rfl, rfl, M, hret1, KP, hFF⟩ ?_
  rintro m E hL6 ⟨b, Fin1, F1, G1, sv1, ev1, a1, ksv1, kbv1, xs1, nb1, xb1, qv, hrun, rfl, rfl, M, hret, KP, hFF⟩
  obtain ⟨xa1, na1, ca1, rfl, _, _⟩ := M.ds.ar.form
  obtain ⟨ak1, ck1, rfl⟩ := Own.form3 M.ds.ok
  obtain ⟨ab1, cb1, rfl⟩ := Own.form3 M.ds.ob
  obtain ⟨as1, cs1, rfl⟩ := SlR.form2 M.s1
  obtain ⟨ae1, ce1, rfl⟩ := SlR.form2 M.s2
  have Bc := M.ds.bc
  have Bb := M.ds.bb
  have hrl := hrun.1
  have hrl2 := hrun.2.1
  have hqq := ret_prv (by omega) hret
  refine tr_seq ?_
  refine tr_seq ?_
  refine tr_reg ?_
  refine rs_v (v_move rfl) rfl ?_
  refine rs_v (v_nilCheck_ptr rfl) rfl ?_
  refine rs_v (v_fieldAddr fa_keyspan_DefragmentingIter_4 rfl) rfl ?_
  refine rs_v (v_load one_p_keyspan_Span rfl (by exact Bc.cell _ rfl)) rfl ?_
  refine rs_v (v_pne u_p_keyspan_Span rfl rfl) rfl ?_
  refine rs_nil ?_
  refine q_thn ?_
  refine tr_ifn rfl (fun hif => ?_) (fun hif => ?_)
  · -- no
    have hend : BegB W b := by
      rcases hqq with ⟨rfl, hb⟩ | ⟨hb, x2, o2, rfl, _⟩
      · exact .inl (by omega)
      · simp at hif
    refine tr_exit ?_
    refine q_thn_exit ?_
    refine q_lp_exit ?_
    refine q_blk_hit ?_
    refine q_thn ?_
    refine tr_seq ?_
    refine tr_seq ?_
    refine tr_reg ?_
    refine rs_v (v_move rfl) rfl ?_
    refine rs_v (v_nilCheck_ptr rfl) rfl ?_
    refine rs_v (v_fieldAddr fa_keyspan_DefragmentingIter_3 rfl) rfl ?_
    refine rs_v (v_load one_keyspan_FragmentIterator rfl (by exact Bc.cell _ rfl)) rfl ?_
    refine rs_w (w_mcall (vs := []) (hit.err M.ds.it) rfl trivial) rfl ?_
    rintro _ h7 ⟨rfl, hsame⟩; have hsame := hsame.symm; subst hsame
    refine rs_v (v_ine_nil isi_error rfl rfl) rfl ?_
    refine rs_nil ?_
    refine q_thn ?_
    refine tr_if_f rfl ?_
    refine tr_skip ?_
    refine q_thn ?_
    refine tr_seq ?_
    refine tr_reg ?_
    refine rs_v (v_move rfl) rfl ?_
    refine rs_v (v_move rfl) rfl ?_
    refine rs_v (v_nilCheck_ptr rfl) rfl ?_
    refine rs_v (v_fieldAddr fa_keyspan_DefragmentingIter_0 rfl) rfl ?_
    refine rs_v (v_load one_p_keyspan_DefragmentingBuffers rfl (by exact Bc.cell _ rfl)) rfl ?_
    refine rs_v (v_nilCheck_ptr rfl) rfl ?_
    refine rs_v (v_fieldAddr fa_keyspan_DefragmentingBuffers_1 rfl) rfl ?_
    refine rs_v (v_load one_sl_keyspan_Key rfl (by exact Bb.cell _ rfl)) rfl ?_
    refine rs_v (v_nilCheck_ptr rfl) rfl ?_
    refine rs_v (v_fieldAddr fa_keyspan_DefragmentingIter_6 rfl) rfl ?_
    refine rs_v (v_fieldAddr fa_keyspan_Span_2 rfl) rfl ?_
    refine rs_w0 (w_put siz_sl_keyspan_Key rfl rfl rfl rfl Bc rfl) ?_
    rintro _ h8 ⟨B8, K8⟩
    have hret := Ret.stab hret (K8.stab (A := Fin1) fun b hb => ⟨M.ds.lo b (M.ds.ff b hb), fun hm => M.ds.di.fc (by rw [List.mem_singleton] at hm; subst hm; exact hb)⟩)
    have M := M.putC hit (sp' := .pointer qv) (z' := (-1)) K8 B8
    have KP := KP.trans (K8.kp hcF) (fun _ h => .inl h)
    refine rs_nil ?_
    refine q_thn ?_
    refine tr_seq ?_
    refine tr_reg ?_
    refine rs_v (v_move rfl) rfl ?_
    refine rs_v (v_nilCheck_ptr rfl) rfl ?_
    refine rs_v (v_fieldAddr fa_keyspan_DefragmentingIter_6 rfl) rfl ?_
    refine rs_v (v_assign rfl) rfl ?_
    refine rs_nil ?_
    refine q_thn ?_
    refine tr_ret ?_
    refine q_ret (res_tmp rfl rfl) ?_
    exact ⟨b, Fin1, F1, _, _, _, _, _, _, _, _, _, _, _, hrun, hend, M.ds, hret, rfl, M.pspan, KP, hFF⟩
  -- yes
  rcases hqq with ⟨rfl, _⟩ | ⟨hb, x2, o2, rfl, hFb2, hps2⟩
  · simp at hif
  have hps20 := hps2
  obtain ⟨ss2, se2, sk2, _, hcs2, hr1, hr2, hr3⟩ := hps2
  obtain ⟨yk, ck2, rfl⟩ := SlR.form2 hr3
  obtain ⟨ys, cys, rfl, hsrc⟩ := RBytes.cellsAt hr1
  obtain ⟨ye, cye, rfl⟩ := SlR.form2 hr2
  
  have hq1 : (prvP b) = .pt (b - 1) := if_neg (by omega)
  have hg2 := hgood (nth W (b - 1)) (nth_mem (by omega))
  have hcks : (jspan W b (i + 1)).ks ≠ [] := (hgood (nth W b) (nth_mem (by omega))).1
  refine tr_skip ?_
  refine q_thn ?_
  refine tr_block ?_
  refine tr_seq ?_
  refine tr_seq ?_
  refine tr_quiet (by kernel_rfl) (by kernel_rfl) ?_
  refine rq_v (v_move rfl) ?_
  refine rq_v (v_nilCheck_ptr rfl) ?_
  refine rq_v (v_fieldAddr fa_keyspan_DefragmentingIter_2 rfl) ?_
  refine rq_v (v_load one_base_Equal rfl (by exact Bc.cell _ rfl)) ?_
  refine rq_v (v_move rfl) ?_
  refine rq_v (v_nilCheck_ptr rfl) ?_
  refine rq_v (v_fieldAddr fa_keyspan_DefragmentingIter_6 rfl) ?_
  refine rq_v (v_fieldAddr fa_keyspan_Span_0 rfl) ?_
  refine rq_v (v_load one_sl_uint8 rfl (by exact Bc.cell _ rfl)) ?_
  refine rq_v (v_move rfl) ?_
  refine rq_v (v_nilCheck_ptr rfl) ?_
  refine rq_v (v_fieldAddr fa_keyspan_DefragmentingIter_4 rfl) ?_
  refine rq_v (v_load one_p_keyspan_Span rfl (by exact Bc.cell _ rfl)) ?_
  refine rq_v (v_nilCheck_ptr rfl) ?_
  refine rq_v (v_fieldAddr fa_keyspan_Span_1 rfl) ?_
  refine rq_v (v_load one_sl_uint8 rfl (by exact hcs2.at 1 rfl)) ?_
  refine rq_w (w_callv (first := []) (cap := []) (vs := [_, _]) ok_bytes_Equal rfl ⟨rfl, rfl, trivial⟩ (c_bytesEqual χ _ _ _ (jspan W b (i + 1)).s _ (RBytes.by M.s1) (RBytes.by hr2))) ?_
  refine rq_v (v_not rfl) ?_
  refine rm_end ?_; simp only [endM, hypF, ofE, argE]
  refine q_thn ?_
  refine tr_if rfl (fun hif => ?_) (fun hif => ?_)
  · -- yes
    have hend : BegB W b := .inr (by
      cases hq : jn (nth W (b - 1)) (nth W b) with
      | false => rfl
      | true =>
        have h9 := (jn_iff.1 hq).1
        have h8 : seq' (jspan W b (i + 1)).s (nth W (b - 1)).e = true := seq_iff.2 h9.symm
        rw [h8] at hif; simp at hif)
    refine tr_exit ?_
    refine q_thn_exit ?_
    refine q_blk_miss rfl ?_
    refine q_lp_exit ?_
    refine q_blk_hit ?_
    refine q_thn ?_
    refine tr_seq ?_
    refine tr_seq ?_
    refine tr_reg ?_
    refine rs_v (v_move rfl) rfl ?_
    refine rs_v (v_nilCheck_ptr rfl) rfl ?_
    refine rs_v (v_fieldAddr fa_keyspan_DefragmentingIter_3 rfl) rfl ?_
    refine rs_v (v_load one_keyspan_FragmentIterator rfl (by exact Bc.cell _ rfl)) rfl ?_
    refine rs_w (w_mcall (vs := []) (hit.err M.ds.it) rfl trivial) rfl ?_
    rintro _ h9 ⟨rfl, hsame⟩; have hsame := hsame.symm; subst hsame
    refine rs_v (v_ine_nil isi_error rfl rfl) rfl ?_
    refine rs_nil ?_
    refine q_thn ?_
    refine tr_if_f rfl ?_
    refine tr_skip ?_
    refine q_thn ?_
    refine tr_seq ?_
    refine tr_reg ?_
    refine rs_v (v_move rfl) rfl ?_
    refine rs_v (v_move rfl) rfl ?_
    refine rs_v (v_nilCheck_ptr rfl) rfl ?_
    refine rs_v (v_fieldAddr fa_keyspan_DefragmentingIter_0 rfl) rfl ?_
    refine rs_v (v_load one_p_keyspan_DefragmentingBuffers rfl (by exact Bc.cell _ rfl)) rfl ?_
    refine rs_v (v_nilCheck_ptr rfl) rfl ?_
    refine rs_v (v_fieldAddr fa_keyspan_DefragmentingBuffers_1 rfl) rfl ?_
    refine rs_v (v_load one_sl_keyspan_Key rfl (by exact Bb.cell _ rfl)) rfl ?_
    refine rs_v (v_nilCheck_ptr rfl) rfl ?_
    refine rs_v (v_fieldAddr fa_keyspan_DefragmentingIter_6 rfl) rfl ?_
    refine rs_v (v_fieldAddr fa_keyspan_Span_2 rfl) rfl ?_
    refine rs_w0 (w_put siz_sl_keyspan_Key rfl rfl rfl rfl Bc rfl) ?_
    rintro _ h10 ⟨B10, K10⟩
    have hret := Ret.stab hret (K10.stab (A := Fin1) fun b hb => ⟨M.ds.lo b (M.ds.ff b hb), fun hm => M.ds.di.fc (by rw [List.mem_singleton] at hm; subst hm; exact hb)⟩)
    have M := M.putC hit (sp' := .pointer (some ⟨x2, o2, none⟩)) (z' := (-1)) K10 B10
    have KP := KP.trans (K10.kp hcF) (fun _ h => .inl h)
    refine rs_nil ?_
    refine q_thn ?_
    refine tr_seq ?_
    refine tr_reg ?_
    refine rs_v (v_move rfl) rfl ?_
    refine rs_v (v_nilCheck_ptr rfl) rfl ?_
    refine rs_v (v_fieldAddr fa_keyspan_DefragmentingIter_6 rfl) rfl ?_
    refine rs_v (v_assign rfl) rfl ?_
    refine rs_nil ?_
    refine q_thn ?_
    refine tr_ret ?_
    refine q_ret (res_tmp rfl rfl) ?_
    exact ⟨b, Fin1, F1, _, _, _, _, _, _, _, _, _, _, _, hrun, hend, M.ds, hret, rfl, M.pspan, KP, hFF⟩
  -- no
  have heq := seq_iff.1 (show seq' (jspan W b (i + 1)).s (nth W (b - 1)).e = true from by simpa using hif)
  refine tr_skip ?_
  refine q_thn ?_
  refine tr_seq ?_
  refine tr_seq ?_
  refine tr_quiet (by kernel_rfl) (by kernel_rfl) ?_
  refine rq_v (v_move rfl) ?_
  refine rq_v (v_move rfl) ?_
  refine rq_v (v_nilCheck_ptr rfl) ?_
  refine rq_v (v_fieldAddr fa_keyspan_DefragmentingIter_4 rfl) ?_
  refine rq_v (v_load one_p_keyspan_Span rfl (by exact Bc.cell _ rfl)) ?_
  refine rq_v (v_move rfl) ?_
  refine rq_v (v_nilCheck_ptr rfl) ?_
  refine rq_v (v_fieldAddr fa_keyspan_DefragmentingIter_6 rfl) ?_
  refine rq_w (w_call (vs := [_, _, _]) ok_keyspan_DefragmentingIter_checkEqual rfl ⟨rfl, rfl, rfl, trivial⟩ (c_checkEqual χ _ Fin1 F1 c x2 o2 (nth W (b - 1)) (jspan W b (i + 1)) _ _ _ _ _ _ _ _ _ Bc hps20 M.pspan hg2.2.2.2.1 hg2.1 hcks)) ?_
  refine rq_v (v_not rfl) ?_
  refine rm_end ?_; simp only [endM, hypF, ofE, argE]
  refine q_thn ?_
  refine tr_if rfl (fun hif => ?_) (fun hif => ?_)
  · -- yes
    have hend : BegB W b := .inr (by
      cases hq : jn (nth W (b - 1)) (nth W b) with
      | false => rfl
      | true =>
        have h9 := (jn_iff.1 hq).2
        have h8 : keysEq (nth W (b - 1)).ks (jspan W b (i + 1)).ks = true := keysEq_iff.2 (h9)
        rw [h8] at hif; simp at hif)
    refine tr_exit ?_
    refine q_thn_exit ?_
    refine q_blk_miss rfl ?_
    refine q_lp_exit ?_
    refine q_blk_hit ?_
    refine q_thn ?_
    refine tr_seq ?_
    refine tr_seq ?_
    refine tr_reg ?_
    refine rs_v (v_move rfl) rfl ?_
    refine rs_v (v_nilCheck_ptr rfl) rfl ?_
    refine rs_v (v_fieldAddr fa_keyspan_DefragmentingIter_3 rfl) rfl ?_
    refine rs_v (v_load one_keyspan_FragmentIterator rfl (by exact Bc.cell _ rfl)) rfl ?_
    refine rs_w (w_mcall (vs := []) (hit.err M.ds.it) rfl trivial) rfl ?_
    rintro _ h11 ⟨rfl, hsame⟩; have hsame := hsame.symm; subst hsame
    refine rs_v (v_ine_nil isi_error rfl rfl) rfl ?_
    refine rs_nil ?_
    refine q_thn ?_
    refine tr_if_f rfl ?_
    refine tr_skip ?_
    refine q_thn ?_
    refine tr_seq ?_
    refine tr_reg ?_
    refine rs_v (v_move rfl) rfl ?_
    refine rs_v (v_move rfl) rfl ?_
    refine rs_v (v_nilCheck_ptr rfl) rfl ?_
    refine rs_v (v_fieldAddr fa_keyspan_DefragmentingIter_0 rfl) rfl ?_
    refine rs_v (v_load one_p_keyspan_DefragmentingBuffers rfl (by exact Bc.cell _ rfl)) rfl ?_
    refine rs_v (v_nilCheck_ptr rfl) rfl ?_
    refine rs_v (v_fieldAddr fa_keyspan_DefragmentingBuffers_1 rfl) rfl ?_
    refine rs_v (v_load one_sl_keyspan_Key rfl (by exact Bb.cell _ rfl)) rfl ?_
    refine rs_v (v_nilCheck_ptr rfl) rfl ?_
    refine rs_v (v_fieldAddr fa_keyspan_DefragmentingIter_6 rfl) rfl ?_
    refine rs_v (v_fieldAddr fa_keyspan_Span_2 rfl) rfl ?_
    refine rs_w0 (w_put siz_sl_keyspan_Key rfl rfl rfl rfl Bc rfl) ?_
    rintro _ h12 ⟨B12, K12⟩
    have hret := Ret.stab hret (K12.stab (A := Fin1) fun b hb => ⟨M.ds.lo b (M.ds.ff b hb), fun hm => M.ds.di.fc (by rw [List.mem_singleton] at hm; subst hm; exact hb)⟩)
    have M := M.putC hit (sp' := .pointer (some ⟨x2, o2, none⟩)) (z' := (-1)) K12 B12
    have KP := KP.trans (K12.kp hcF) (fun _ h => .inl h)
    refine rs_nil ?_
    refine q_thn ?_
    refine tr_seq ?_
    refine tr_reg ?_
    refine rs_v (v_move rfl) rfl ?_
    refine rs_v (v_nilCheck_ptr rfl) rfl ?_
    refine rs_v (v_fieldAddr fa_keyspan_DefragmentingIter_6 rfl) rfl ?_
    refine rs_v (v_assign rfl) rfl ?_
    refine rs_nil ?_
    refine q_thn ?_
    refine tr_ret ?_
    refine q_ret (res_tmp rfl rfl) ?_
    exact ⟨b, Fin1, F1, _, _, _, _, _, _, _, _, _, _, _, hrun, hend, M.ds, hret, rfl, M.pspan, KP, hFF⟩
  -- no
  have hke := keysEq_iff.1 (show keysEq (nth W (b - 1)).ks (jspan W b (i + 1)).ks = true from by simpa using hif)
  have hjn : jn (nth W (b - 1)) (nth W b) = true := jn_iff.2 ⟨heq.symm, hke⟩
  have hkk : (nth W (b - 1)).ks = (jspan W b (i + 1)).ks := hke
  refine tr_skip ?_
  refine q_thn ?_
  refine tr_seq ?_
  have hsm2 := (hgood (nth W (b - 1)) (nth_mem (by omega))).2
  have hsz2 : ((nth W (b - 1)).s).data.toList.length ≤ 2147483647 := by rw [ba_size]; exact hsm2.1
  have hsrc1 : byteCells ((nth W (b - 1)).s).data.toList = [] ∨ ∃ g9 o9, ys = some ⟨g9, o9, none⟩ ∧ CellsAt hL6 g9 o9 (byteCells ((nth W (b - 1)).s).data.toList) := by
    rcases hsrc with e | ⟨g9, o9, e, _, hc⟩
    · exact .inl (by rw [e]; rfl)
    · exact .inr ⟨g9, o9, e, hc⟩
  have hnk : ∀ b, Fin1 b → b ∉ (Value.slice ab1 0 cb1).ownBlock.toList := fun b hb hm => (M.ds.di.b1 b (mem_cut hm)).2.2.1 hb
  refine tr_draw [(true, 20), (false, 3)] _ (by kernel_rfl) (by kernel_rfl) (by kernel_rfl) ?_
  refine rx_big Same (Keep (Value.slice ab1 0 cb1).ownBlock.toList) same_pre (keep_pre _) (fun a b e => by cases e; exact Keep.refl _ _) ?_
  refine rb_v same_pre (fun h' hk => v_move rfl) ?_
  refine rb_v same_pre (fun h' hk => v_nilCheck_ptr rfl) ?_
  refine rb_v same_pre (fun h' hk => v_fieldAddr fa_keyspan_DefragmentingIter_0 rfl) ?_
  refine rb_v same_pre (fun h' hk => v_load one_p_keyspan_DefragmentingBuffers rfl ((hk.blk (fun hm => (M.ds.di.b1 c (mem_cut hm)).1 rfl) Bc).cell _ rfl)) ?_
  refine rb_v same_pre (fun h' hk => v_move rfl) ?_
  refine rb_v same_pre (fun h' hk => v_nilCheck_ptr rfl) ?_
  refine rb_v same_pre (fun h' hk => v_fieldAddr fa_keyspan_DefragmentingIter_0 rfl) ?_
  refine rb_v same_pre (fun h' hk => v_load one_p_keyspan_DefragmentingBuffers rfl ((hk.blk (fun hm => (M.ds.di.b1 c (mem_cut hm)).1 rfl) Bc).cell _ rfl)) ?_
  refine rb_v same_pre (fun h' hk => v_nilCheck_ptr rfl) ?_
  refine rb_v same_pre (fun h' hk => v_fieldAddr fa_keyspan_DefragmentingBuffers_2 rfl) ?_
  refine rb_v same_pre (fun h' hk => v_load one_sl_uint8 rfl ((hk.blk (fun hm => (M.ds.di.b1 cb (mem_cut hm)).2.1 rfl) Bb).cell _ rfl)) ?_
  refine rb_v same_pre (fun h' hk => v_slice_h (i := 0) u_sl_uint8 siz_uint8 rfl rfl rfl (Nat.zero_le _)) ?_
  refine rb_v same_pre (fun h' hk => v_move rfl) ?_
  refine rb_v same_pre (fun h' hk => v_nilCheck_ptr rfl) ?_
  refine rb_v same_pre (fun h' hk => v_fieldAddr fa_keyspan_DefragmentingIter_4 rfl) ?_
  refine rb_v same_pre (fun h' hk => v_load one_p_keyspan_Span rfl ((hk.blk (fun hm => (M.ds.di.b1 c (mem_cut hm)).1 rfl) Bc).cell _ rfl)) ?_
  refine rb_v same_pre (fun h' hk => v_nilCheck_ptr rfl) ?_
  refine rb_v same_pre (fun h' hk => v_fieldAddr fa_keyspan_Span_0 rfl) ?_
  refine rb_v same_pre (fun h' hk => v_load one_sl_uint8 rfl ((hk.cells (hnk _ hFb2) hcs2).at 0 rfl)) ?_
  refine rb_big (fun v h' => Own h' 0 u8T 1 v ((nth W (b - 1)).s).data.toList.length (byteCells ((nth W (b - 1)).s).data.toList) ∧ Keep (Value.slice ab1 0 cb1).ownBlock.toList hL6 h' ∧ (v.ownBlock = (Value.slice ab1 0 cb1).ownBlock ∨ v.ownBlock = some (hL6).size))
    (fun v h1 h2 _ e hr => by cases e; exact hr)
    (fun h' hk => by
      have hk : h' = hL6 := hk
      subst hk
      exact OpW.mono (w_appS (news := byteCells ((nth W (b - 1)).s).data.toList) u_sl_uint8 info_uint8 rfl rfl rfl (Own.cut0 M.ds.ob) rfl (by rw [bc_len, Nat.mul_one]) hsrc1 bc_one (by omega) (by omega) (Nat.zero_le _)) (fun v h'' hv => by
        obtain ⟨O', K', F'⟩ := hv
        exact ⟨K', by simpa using O', K', F'⟩)) ?_
  refine rb_end ?_; intro ha9 Ka9; simp only [endM, hypF, ofE, argE, List.nil_append]
  intro v19 hv19
  obtain ⟨O10, K10, F10⟩ := hv19
  obtain ⟨ax, cax, rfl⟩ := Own.form3 O10
  have Bb9 := Ka9.blk (fun hm => (M.ds.di.b1 cb (mem_cut hm)).2.1 rfl) Bb
  have Bc9 := Ka9.blk (fun hm => (M.ds.di.b1 c (mem_cut hm)).1 rfl) Bc
  refine rx_seq ?_
  refine rs_v (v_nilCheck_ptr rfl) rfl ?_
  refine rs_v (v_fieldAddr fa_keyspan_DefragmentingBuffers_2 rfl) rfl ?_
  refine rs_w0 (w_put siz_sl_uint8 rfl rfl rfl rfl Bb9 rfl) ?_
  rintro _ h13 ⟨Bb, K10b⟩
  have Bc := K10b.blk (by simp; exact M.ds.di.ne) Bc9
  have B10b : Blk h13 cb [Value.slice xa1 na1 ca1, Value.slice ak1 (jspan W b (i + 1)).ks.length ck1, Value.slice ax ((nth W (b - 1)).s).data.toList.length cax] bufT := Bb
  refine rs_nil ?_
  refine q_con ?_
  refine rx_nil ?_
  refine q_thn ?_
  refine tr_seq ?_
  refine tr_reg ?_
  refine rs_v (v_move rfl) rfl ?_
  refine rs_v (v_move rfl) rfl ?_
  refine rs_v (v_nilCheck_ptr rfl) rfl ?_
  refine rs_v (v_fieldAddr fa_keyspan_DefragmentingIter_0 rfl) rfl ?_
  refine rs_v (v_load one_p_keyspan_DefragmentingBuffers rfl (by exact Bc.cell _ rfl)) rfl ?_
  refine rs_v (v_nilCheck_ptr rfl) rfl ?_
  refine rs_v (v_fieldAddr fa_keyspan_DefragmentingBuffers_2 rfl) rfl ?_
  refine rs_v (v_load one_sl_uint8 rfl (by exact Bb.cell _ rfl)) rfl ?_
  refine rs_v (v_nilCheck_ptr rfl) rfl ?_
  refine rs_v (v_fieldAddr fa_keyspan_DefragmentingIter_6 rfl) rfl ?_
  refine rs_v (v_fieldAddr fa_keyspan_Span_0 rfl) rfl ?_
  refine rs_w0 (w_put siz_sl_uint8 rfl rfl rfl rfl Bc rfl) ?_
  rintro _ h14 ⟨B14, K14⟩
  have M0 := M
  obtain ⟨M2, KE, hFE⟩ := M0.ext hit (kb0 := (Value.slice ab1 0 cb1)) own_cut O10 K10 F10 K10b B10b K14 (.slice ax _ cax) (.slice ae1 _ ce1) (by simp) B14
  have hcur2 : (if false then (⟨(jspan W b (i + 1)).s, (nth W (b - 1)).s, (jspan W b (i + 1)).ks⟩ : SpanD) else ⟨(nth W (b - 1)).s, (jspan W b (i + 1)).e, (jspan W b (i + 1)).ks⟩) = (jspan W (b - 1) (i + 1)) := by simp only [jspan, Bool.false_eq_true, if_false]; rw [show (nth W b).ks = (nth W (b - 1)).ks from hkk.symm]
  have M := M2
  rw [hcur2] at M
  have hcs3 := (show Stab Fin1 _ h14 from fun b hb => by
    rw [show (h14)[b]? = _ from K14.2 b (by have := M0.ds.lo b (M0.ds.ff b hb); have := K10.1; have := K10b.1; omega) (fun hm => M0.ds.di.fc (by rw [List.mem_singleton] at hm; subst hm; exact hb)), K10b.2 b (by have := M0.ds.lo b (M0.ds.ff b hb); have := K10.1; omega) (fun hm => M0.ds.di.fb (by rw [List.mem_singleton] at hm; subst hm; exact hb))]
    exact K10.2 b (M0.ds.lo b (M0.ds.ff b hb)) (hnk b hb)).cells hFb2 hcs2
  have hKz2 := KP.1
  have hFF2 : ∀ y, (F1 y ∨ y ∈ (Value.slice ax ((nth W (b - 1)).s).data.toList.length cax).ownBlock.toList) → F y ∨ h.size ≤ y := fun y hy => hy.elim (hFF y) (fun e => (hFE y e).elim (hFF y) (fun e9 => Or.inr (by omega)))
  have KP := KP.trans KE hFF
  have hFF := hFF2
  have Bc := M.ds.bc
  have Bb := M.ds.bb
  refine rs_nil ?_
  refine q_thn ?_
  refine tr_seq ?_
  refine tr_draw [(true, 23), (false, 3)] _ (by kernel_rfl) (by kernel_rfl) (by kernel_rfl) ?_
  refine rx_any Same same_pre ?_
  refine rq_v (v_move rfl) ?_
  refine rq_v (v_nilCheck_ptr rfl) ?_
  refine rq_v (v_fieldAddr fa_keyspan_DefragmentingIter_0 rfl) ?_
  refine rq_v (v_load one_p_keyspan_DefragmentingBuffers rfl (by exact Bc.cell _ rfl)) ?_
  refine rq_v (v_move rfl) ?_
  refine rq_v (v_nilCheck_ptr rfl) ?_
  refine rq_v (v_fieldAddr fa_keyspan_DefragmentingIter_8 rfl) ?_
  refine rq_v (v_load one_keyspan_DefragmentReducer rfl (by exact Bc.cell _ rfl)) ?_
  refine rq_v (v_move rfl) ?_
  refine rq_v (v_nilCheck_ptr rfl) ?_
  refine rq_v (v_fieldAddr fa_keyspan_DefragmentingIter_0 rfl) ?_
  refine rq_v (v_load one_p_keyspan_DefragmentingBuffers rfl (by exact Bc.cell _ rfl)) ?_
  refine rq_v (v_nilCheck_ptr rfl) ?_
  refine rq_v (v_fieldAddr fa_keyspan_DefragmentingBuffers_1 rfl) ?_
  refine rq_v (v_load one_sl_keyspan_Key rfl (by exact Bb.cell _ rfl)) ?_
  refine rq_v (v_move rfl) ?_
  refine rq_v (v_nilCheck_ptr rfl) ?_
  refine rq_v (v_fieldAddr fa_keyspan_DefragmentingIter_4 rfl) ?_
  refine rq_v (v_load one_p_keyspan_Span rfl (by exact Bc.cell _ rfl)) ?_
  refine rq_v (v_nilCheck_ptr rfl) ?_
  refine rq_v (v_fieldAddr fa_keyspan_Span_2 rfl) ?_
  refine rq_v (v_load one_sl_keyspan_Key rfl (by exact hcs3.at 2 rfl)) ?_
  refine rq_w (w_callv (first := []) (cap := []) (vs := [_, _]) ok_keyspan_StaticDefragmentReducer rfl ⟨rfl, rfl, trivial⟩ (c_Reduce χ _ _ _)) ?_
  refine rm_end ?_; intro ha15 Ka15; simp only [endM, hypF, ofE, argE, List.nil_append]
  have Ka15 : h14 = ha15 := Eq.symm Ka15
  subst Ka15
  refine rx_seq ?_
  refine rs_v (v_nilCheck_ptr rfl) rfl ?_
  refine rs_v (v_fieldAddr fa_keyspan_DefragmentingBuffers_1 rfl) rfl ?_
  refine rs_w0 (w_put siz_sl_keyspan_Key rfl rfl rfl rfl Bb rfl) ?_
  rintro _ h16 ⟨B16, K16⟩
  have M := M.putB hit K16 B16
  have KP := KP.trans (K16.kp hbF) (fun _ h => .inl h)
  have Bc := M.ds.bc
  have Bb := M.ds.bb
  refine rs_nil ?_
  refine q_con ?_
  refine rx_nil ?_
  refine q_thn ?_
  refine tr_reg ?_
  refine rs_v (v_move rfl) rfl ?_
  refine rs_v (v_move rfl) rfl ?_
  refine rs_v (v_nilCheck_ptr rfl) rfl ?_
  refine rs_v (v_fieldAddr fa_keyspan_DefragmentingIter_3 rfl) rfl ?_
  refine rs_v (v_load one_keyspan_FragmentIterator rfl (by exact Bc.cell _ rfl)) rfl ?_
  refine rs_w (w_mcall (vs := []) (hit.prev M.ds.it (by rw [hq1]; rfl)) rfl trivial) rfl ?_
  rintro r17 h17 hp17
  rw [show pPrev W (prvP b) = (prvP (b - 1)) from by rw [hq1]; rfl] at hp17
  have MFF := M.ds.ff
  obtain ⟨Fin2, M, hF2, KF2, hret2⟩ := M.inner hit hp17
  obtain ⟨qv2, rfl, _⟩ := hret2.form
  have hKz := KP.1
  have hFF2 : ∀ b, _ → F b ∨ h.size ≤ b := fun b hb => Or.elim hb (hFF b) (fun e => (hF2 b e).elim (fun e9 => hFF b (MFF b e9)) (fun e9 => Or.inr (by omega)))
  have KP := KP.trans KF2 hFF
  have hFF := hFF2
  have hlo2 : ∀ b, Fin2 b → b < (h17).size := fun b hb => M.ds.lo b (M.ds.ff b hb)
  have Bc := M.ds.bc
  have Bb := M.ds.bb
  refine rs_v (v_nilCheck_ptr rfl) rfl ?_
  refine rs_v (v_fieldAddr fa_keyspan_DefragmentingIter_4 rfl) rfl ?_
  refine rs_w0 (w_put siz_p_keyspan_Span rfl rfl rfl rfl Bc rfl) ?_
  rintro _ h18 ⟨B18, K18⟩
  have M := M.putC hit (sp' := .pointer qv2) (z' := (-1)) K18 B18
  have hret1 := Ret.stab hret2 (K18.stab (A := Fin2) fun b hb => ⟨by have := hlo2 b hb; omega, fun hm => M.ds.di.fc (by rw [List.mem_singleton] at hm; subst hm; exact hb)⟩)
  have KP := KP.trans (K18.kp hcF) (fun _ h => .inl h)
  have Bc := M.ds.bc
  have Bb := M.ds.bb
  refine rs_nil ?_
  refine q_blk_n ?_
  refine q_lp (((b - 1) + 1)) [(0, _)] (by omega) ⟨rfl, trivial⟩ ⟨b - 1, _, _, _, _, _, _, _, _, _, _, _, _, run_prev hrun hb hjn, rfl, rfl, M, hret1, KP, hFF⟩
end Go.Proofs.Ytgebfbnndgjkiaa
namespace Go.Proofs.Ytgebfbnndgjkiaa
open Go.Tess Go.RowKit
set_option maxRecDepth 100000
set_option maxHeartbeats 1000000
/-- The place in the joined list, that in the list beneath, and what the iterator knows of it. -/
def relD (W : List SpanD) (p q : Pos) (z : Int) : Prop :=
  p = .nowhere ∨ (p = .behind ∧ q = .behind ∧ z = 0) ∨ (p = .ahead ∧ q = .ahead ∧ z = 0) ∨ ∃ a b, p = .pt (nG W a) ∧ Grp W a b ∧ ((z = 1 ∧ q = nxtP W b) ∨ (z = -1 ∧ q = prvP a))
def DIt (W : List SpanD) (I : ItI) (t : TypeId) (v0 : Value) (cmb c cb : Nat) : ItI := fun p F h =>
  ∃ q Fin F0 sp z sv ev kv a ksv kbv nk xk nb xb s0, DSt W I t v0 (.pointer (some ⟨cmb, 0, none⟩)) c cb q Fin F0 h sp z sv ev kv a ksv kbv nk xk nb xb ∧ Ret W q Fin h sp ∧ relD W p q z ∧ ¬ F0 cmb ∧ (∀ b, F0 b → F b) ∧ F cmb ∧ Low F h ∧ Blk h cmb (cmpL s0) 119
section
variable {W : List SpanD} {I : ItI} {t : TypeId} {v0 : Value} {cmb c cb : Nat} {p q : Pos} {F F0 F1 Fin : Nat → Prop} {h h' : Heap} {sp sv ev kv a ksv kbv : Value} {z : Int} {nk nb : Nat} {xk xb : List Value} {s0 : ByteArray}
theorem di_post (hlF : Low F h) (hF0 : ∀ b, F0 b → F b) (hFc : F cmb) (hcm : ¬ F0 cmb) (Bq : Blk h cmb (cmpL s0) 119)
    (D : DSt W I t v0 (.pointer (some ⟨cmb, 0, none⟩)) c cb q Fin F1 h' sp z sv ev kv a ksv kbv nk xk nb xb) (hret : Ret W q Fin h' sp) (hrel : relD W p q z) (KP : KeepP F0 h h') (hFF : ∀ b, F1 b → F0 b ∨ h.size ≤ b) {r : Value} (hr : Ret (dfr W) p F1 h' r) :
    ItPost (dfr W) (DIt W I t v0 cmb c cb) F h p r h' := by
  have hz := KP.1
  have hcl := Bq.lt
  refine ⟨fun b => F b ∨ F1 b, ⟨q, Fin, F1, sp, z, sv, ev, kv, a, ksv, kbv, nk, xk, nb, xb, s0, D, hret, hrel, fun hc => ?_, fun b hb => .inr hb, .inl hFc, fun b hb => ?_, KP.blk hcm Bq⟩, fun b hb => ?_, ⟨hz, fun b hb hF => KP.2 b hb (fun h0 => hF (hF0 b h0))⟩, ?_⟩
  · rcases hFF _ hc with e | e
    · exact hcm e
    · omega
  · rcases hb with hb | hb
    · have := hlF b hb; omega
    · exact D.lo b hb
  · rcases hb with hb | hb
    · exact .inl hb
    · rcases hFF b hb with e | e
      · exact .inl (hF0 b e)
      · exact .inr e
  · unfold Ret at hr ⊢
    cases hc : cur (dfr W) p with
    | none => rw [hc] at hr; exact hr
    | some s => rw [hc] at hr; obtain ⟨b, o, e, h1, h2⟩ := hr; exact ⟨b, o, e, .inr h1, h2.mono fun b hb => .inr hb⟩
theorem ret_grp {x y : Nat} (hg : Grp W x y) {F1 : Nat → Prop} (hc : F1 c) (hps : PSpan F1 h' c 6 (jspan W x y)) : Ret (dfr W) (.pt (nG W x)) F1 h' (.pointer (some ⟨c, 6, none⟩)) := by
  unfold Ret
  rw [show cur (dfr W) (.pt (nG W x)) = some (jspan W x y) from (grp_at hg).1]
  exact ⟨c, 6, rfl, hc, hps⟩
theorem ret_gen {q : Pos} {i : Nat} {P : Prop} {h : Heap} {qv : Option Addr} [Decidable P] {q0 : Pos} (hq : q = if P then .pt i else q0) (hi : P → i < W.length) (h0 : ∀ s, cur W q0 ≠ some s) (hr : Ret W q Fin h (.pointer qv)) :
    (qv = none ∧ ¬ P) ∨ (P ∧ q = .pt i ∧ ∃ x o, qv = some ⟨x, o, none⟩ ∧ Fin x ∧ PSpan Fin h x o (nth W i)) := by
  by_cases hp : P
  · rw [if_pos hp] at hq; subst hq
    obtain ⟨x, o, e, h1, h2⟩ := ret_pt hr (hi hp)
    cases e
    exact .inr ⟨hp, rfl, x, o, rfl, h1, h2⟩
  · rw [if_neg hp] at hq; subst hq
    unfold Ret at hr
    cases hc : cur W q with
    | none => rw [hc] at hr; cases hr; exact .inl ⟨rfl, hp⟩
    | some s => exact absurd hc (h0 s)
theorem beg_of_end {b : Nat} (he : EndB W b) (hb : b < W.length) : BegB W b := by
  rcases he with e | e
  · omega
  · exact .inr e
theorem end_of_beg {b : Nat} (he : BegB W b) (hb : 0 < b) : EndB W b := by
  rcases he with e | e
  · omega
  · exact .inr e
end
theorem m_DiFirst (v : Value) : Meth Try.prog 165 v "First" 143 v := fun _ => by kernel_rfl
theorem m_DiLast (v : Value) : Meth Try.prog 165 v "Last" 144 v := fun _ => by kernel_rfl
theorem m_DiNext (v : Value) : Meth Try.prog 165 v "Next" 145 v := fun _ => by kernel_rfl
theorem m_DiPrev (v : Value) : Meth Try.prog 165 v "Prev" 146 v := fun _ => by kernel_rfl
theorem m_DiSeekGE (v : Value) : Meth Try.prog 165 v "SeekGE" 147 v := fun _ => by kernel_rfl
theorem m_DiSeekLT (v : Value) : Meth Try.prog 165 v "SeekLT" 148 v := fun _ => by kernel_rfl
theorem m_DiError (v : Value) : Meth Try.prog 165 v "Error" 142 v := fun _ => by kernel_rfl
theorem c_DiError (χ : Chi) {W : List SpanD} {I : ItI} {t : TypeId} {v0 : Value} {cmb c cb : Nat} {p : Pos} {F : Nat → Prop} {h : Heap} (hit : IterOK Try.prog χ W t v0 I) (hI : DIt W I t v0 cmb c cb p F h) :
    Cl Try.prog χ 142 #[.pointer (some ⟨c, 0, none⟩)] h (fun r h' => r = .nilIface ∧ h' = h) := by
  obtain ⟨q, Fin, F0, sp, z, sv, ev, kv, a, ksv, kbv, nk, xk, nb, xb, s0, D, hret, hrel, hcm, hF0, hFc, hlF, Bq⟩ := hI
  have KP := KeepP.refl F0 h
  have hFF : ∀ b, F0 b → F0 b ∨ h.size ≤ b := fun b hb => .inl hb
  have hcF : ∀ x, x ∈ [c] → F0 x := fun x hx => by rw [List.mem_singleton] at hx; subst hx; exact D.fc
  have Bc := D.bc
  refine cl_intro Try.func142 rfl rfl rfl ?_
  have K : Keep [] h h := Keep.refl _ _
  refine tr_seq ?_
  refine tr_reg ?_
  refine rs_v (v_assign rfl) rfl ?_
  refine rs_nil ?_
  refine q_thn ?_
  refine tr_seq ?_
  refine tr_reg ?_
  refine rs_v (v_move rfl) rfl ?_
  refine rs_v (v_nilCheck_ptr rfl) rfl ?_
  refine rs_v (v_fieldAddr fa_keyspan_DefragmentingIter_3 rfl) rfl ?_
  refine rs_v (v_load one_keyspan_FragmentIterator rfl (by exact Bc.cell _ rfl)) rfl ?_
  refine rs_w (w_mcall (vs := []) (hit.err D.it) rfl trivial) rfl ?_
  rintro _ h1 ⟨rfl, hsame⟩; have hsame := hsame.symm; subst hsame
  refine rs_v (v_assign rfl) rfl ?_
  refine rs_nil ?_
  refine q_thn ?_
  refine tr_ret ?_
  refine q_ret (res_tmp rfl rfl) ?_
  exact ⟨rfl, rfl⟩
theorem c_DiFirst (χ : Chi) {W : List SpanD} {I : ItI} {t : TypeId} {v0 : Value} {cmb c cb : Nat} {p : Pos} {F : Nat → Prop} {h : Heap} (hit : IterOK Try.prog χ W t v0 I) (hgood : GoodD W) (hI : DIt W I t v0 cmb c cb p F h)  :
    Cl Try.prog χ 143 #[.pointer (some ⟨c, 0, none⟩)] h (ItPost (dfr W) (DIt W I t v0 cmb c cb) F h (pFirst (dfr W))) := by
  obtain ⟨q, Fin, F0, sp, z, sv, ev, kv, a, ksv, kbv, nk, xk, nb, xb, s0, D, hret, hrel, hcm, hF0, hFc, hlF, Bq⟩ := hI
  have KP := KeepP.refl F0 h
  have hFF : ∀ b, F0 b → F0 b ∨ h.size ≤ b := fun b hb => .inl hb
  have hcF : ∀ x, x ∈ [c] → F0 x := fun x hx => by rw [List.mem_singleton] at hx; subst hx; exact D.fc
  have Bc := D.bc
  refine cl_intro Try.func143 rfl rfl rfl ?_
  have K : Keep [] h h := Keep.refl _ _
  refine tr_seq ?_
  refine tr_reg ?_
  refine rs_v (v_assign rfl) rfl ?_
  refine rs_nil ?_
  refine q_thn ?_
  refine tr_seq ?_
  refine tr_reg ?_
  refine rs_v (v_move rfl) rfl ?_
  refine rs_v (v_move rfl) rfl ?_
  refine rs_v (v_nilCheck_ptr rfl) rfl ?_
  refine rs_v (v_fieldAddr fa_keyspan_DefragmentingIter_3 rfl) rfl ?_
  refine rs_v (v_load one_keyspan_FragmentIterator rfl (by exact Bc.cell _ rfl)) rfl ?_
  refine rs_w (w_mcall (vs := []) (hit.first D.it) rfl trivial) rfl ?_
  rintro r1 h1 hp1
  skip
  have DFF := D.ff
  obtain ⟨Fin2, D, hF2, _, KF2, hret2⟩ := D.inner hit hp1
  obtain ⟨qv2, rfl, _⟩ := hret2.form
  have hKz := KP.1
  have hFF2 : ∀ b, _ → F0 b ∨ h.size ≤ b := fun b hb => Or.elim hb (hFF b) (fun e => (hF2 b e).elim (fun e9 => hFF b (DFF b e9)) (fun e9 => Or.inr (by omega)))
  have KP := KP.trans KF2 hFF
  have hFF := hFF2
  have Bc := D.bc
  refine rs_v (v_nilCheck_ptr rfl) rfl ?_
  refine rs_v (v_fieldAddr fa_keyspan_DefragmentingIter_4 rfl) rfl ?_
  refine rs_w0 (w_put siz_p_keyspan_Span rfl rfl rfl rfl Bc rfl) ?_
  rintro _ h2 ⟨B2, K2⟩
  have hret1 := Ret.stab hret2 (K2.stab (A := Fin2) fun b hb => ⟨D.lo b (D.ff b hb), fun hm => D.di.fc (by rw [List.mem_singleton] at hm; subst hm; exact hb)⟩)
  have D := D.putC hit (sp' := .pointer qv2) (z' := z) K2 B2
  have KP := KP.trans (K2.kp hcF) (fun _ h => .inl h)
  have Bc := D.bc
  refine rs_nil ?_
  refine q_thn ?_
  refine tr_seq ?_
  refine tr_seq ?_
  refine tr_reg ?_
  refine rs_v (v_move rfl) rfl ?_
  refine rs_v (v_nilCheck_ptr rfl) rfl ?_
  refine rs_v (v_fieldAddr fa_keyspan_DefragmentingIter_4 rfl) rfl ?_
  refine rs_v (v_load one_p_keyspan_Span rfl (by exact Bc.cell _ rfl)) rfl ?_
  refine rs_v (v_peq u_p_keyspan_Span rfl rfl) rfl ?_
  refine rs_nil ?_
  refine q_thn ?_
  refine tr_if rfl (fun hif => ?_) (fun hif => ?_)
  · -- yes
    have hq := ret_gen (P := ¬ W.length = 0) (i := 0) (q0 := .nowhere) (by simp only [pFirst]; split <;> simp_all) (by omega) (by simp [cur]) hret1
    rcases hq with ⟨rfl, hW⟩ | ⟨hW, hq, x2, o2, rfl, _, _⟩
    rotate_left
    · simp at hif
    refine tr_seq ?_
    refine tr_reg ?_
    refine rs_v (v_move rfl) rfl ?_
    refine rs_v (v_nilCheck_ptr rfl) rfl ?_
    refine rs_v (v_fieldAddr fa_keyspan_DefragmentingIter_5 rfl) rfl ?_
    refine rs_w0 (w_put siz_keyspan_iterPos rfl rfl rfl rfl Bc rfl) ?_
    rintro _ h3 ⟨B3, K3⟩
    have hret1 := Ret.stab hret1 (K3.stab (A := _) fun b hb => ⟨D.lo b (D.ff b hb), fun hm => D.di.fc (by rw [List.mem_singleton] at hm; subst hm; exact hb)⟩)
    have D := D.putC hit (sp' := .pointer none) (z' := 0) K3 B3
    have KP := KP.trans (K3.kp hcF) (fun _ h => .inl h)
    refine rs_nil ?_
    refine q_thn ?_
    refine tr_seq ?_
    refine tr_reg ?_
    refine rs_v (v_assign rfl) rfl ?_
    refine rs_nil ?_
    refine q_thn ?_
    refine tr_ret ?_
    refine q_thn_ret ?_
    refine q_ret (res_tmp rfl rfl) ?_
    rw [show dfr W = [] from dfr_nil (by omega), show pFirst ([] : List SpanD) = .nowhere from rfl, ← show dfr W = [] from dfr_nil (by omega)]
    exact di_post hlF hF0 hFc hcm Bq D hret1 (.inl rfl) KP hFF (by unfold Ret; rw [show cur (dfr W) .nowhere = none from rfl])
  -- no
  have hq := ret_gen (P := ¬ W.length = 0) (i := 0) (q0 := .nowhere) (by simp only [pFirst]; split <;> simp_all) (by omega) (by simp [cur]) hret1
  rcases hq with ⟨rfl, hW⟩ | ⟨hW, hq, x2, o2, rfl, _, _⟩
  · simp at hif
  rw [hq] at D hret1
  refine tr_skip ?_
  refine q_thn ?_
  refine tr_seq ?_
  refine tr_reg ?_
  refine rs_v (v_move rfl) rfl ?_
  refine rs_w (w_call (vs := [_]) ok_keyspan_DefragmentingIter_defragmentForward rfl ⟨rfl, trivial⟩ (c_defragmentForward hit hgood D (by omega) hret1)) rfl ?_
  rintro r4 h4 ⟨b3, Fin3, F3, sp3, sv3, ev3, kv3, a3, ksv3, kbv3, nk3, xk3, nb3, xb3, hrun3, hend3, D, hret, rfl, hps3, KP3, hF3⟩
  obtain ⟨qv3, rfl, _⟩ := hret.form
  have hKz := KP.1
  have KP := KP.trans KP3 hFF
  have hFF : ∀ b, F3 b → F0 b ∨ h.size ≤ b := fun b hb => (hF3 b hb).elim (hFF b) (fun e9 => Or.inr (by omega))
  have Bc := D.bc
  refine rs_v (v_assign rfl) rfl ?_
  refine rs_nil ?_
  refine q_thn ?_
  refine tr_ret ?_
  refine q_ret (res_tmp rfl rfl) ?_
  have hW0 : 0 < W.length := by omega
  have hg : Grp W 0 b3 := ⟨.inl rfl, hrun3, hend3⟩
  rw [grp_first hg]
  exact di_post hlF hF0 hFc hcm Bq D hret (.inr (.inr (.inr ⟨0, b3, rfl, hg, .inl ⟨rfl, rfl⟩⟩))) KP hFF (ret_grp hg D.fc hps3)
theorem c_DiLast (χ : Chi) {W : List SpanD} {I : ItI} {t : TypeId} {v0 : Value} {cmb c cb : Nat} {p : Pos} {F : Nat → Prop} {h : Heap} (hit : IterOK Try.prog χ W t v0 I) (hgood : GoodD W) (hI : DIt W I t v0 cmb c cb p F h)  :
    Cl Try.prog χ 144 #[.pointer (some ⟨c, 0, none⟩)] h (ItPost (dfr W) (DIt W I t v0 cmb c cb) F h (pLast (dfr W))) := by
  obtain ⟨q, Fin, F0, sp, z, sv, ev, kv, a, ksv, kbv, nk, xk, nb, xb, s0, D, hret, hrel, hcm, hF0, hFc, hlF, Bq⟩ := hI
  have KP := KeepP.refl F0 h
  have hFF : ∀ b, F0 b → F0 b ∨ h.size ≤ b := fun b hb => .inl hb
  have hcF : ∀ x, x ∈ [c] → F0 x := fun x hx => by rw [List.mem_singleton] at hx; subst hx; exact D.fc
  have Bc := D.bc
  refine cl_intro Try.func144 rfl rfl rfl ?_
  have K : Keep [] h h := Keep.refl _ _
  refine tr_seq ?_
  refine tr_reg ?_
  refine rs_v (v_assign rfl) rfl ?_
  refine rs_nil ?_
  refine q_thn ?_
  refine tr_seq ?_
  refine tr_reg ?_
  refine rs_v (v_move rfl) rfl ?_
  refine rs_v (v_move rfl) rfl ?_
  refine rs_v (v_nilCheck_ptr rfl) rfl ?_
  refine rs_v (v_fieldAddr fa_keyspan_DefragmentingIter_3 rfl) rfl ?_
  refine rs_v (v_load one_keyspan_FragmentIterator rfl (by exact Bc.cell _ rfl)) rfl ?_
  refine rs_w (w_mcall (vs := []) (hit.last D.it) rfl trivial) rfl ?_
  rintro r1 h1 hp1
  skip
  have DFF := D.ff
  obtain ⟨Fin2, D, hF2, _, KF2, hret2⟩ := D.inner hit hp1
  obtain ⟨qv2, rfl, _⟩ := hret2.form
  have hKz := KP.1
  have hFF2 : ∀ b, _ → F0 b ∨ h.size ≤ b := fun b hb => Or.elim hb (hFF b) (fun e => (hF2 b e).elim (fun e9 => hFF b (DFF b e9)) (fun e9 => Or.inr (by omega)))
  have KP := KP.trans KF2 hFF
  have hFF := hFF2
  have Bc := D.bc
  refine rs_v (v_nilCheck_ptr rfl) rfl ?_
  refine rs_v (v_fieldAddr fa_keyspan_DefragmentingIter_4 rfl) rfl ?_
  refine rs_w0 (w_put siz_p_keyspan_Span rfl rfl rfl rfl Bc rfl) ?_
  rintro _ h2 ⟨B2, K2⟩
  have hret1 := Ret.stab hret2 (K2.stab (A := Fin2) fun b hb => ⟨D.lo b (D.ff b hb), fun hm => D.di.fc (by rw [List.mem_singleton] at hm; subst hm; exact hb)⟩)
  have D := D.putC hit (sp' := .pointer qv2) (z' := z) K2 B2
  have KP := KP.trans (K2.kp hcF) (fun _ h => .inl h)
  have Bc := D.bc
  refine rs_nil ?_
  refine q_thn ?_
  refine tr_seq ?_
  refine tr_seq ?_
  refine tr_reg ?_
  refine rs_v (v_move rfl) rfl ?_
  refine rs_v (v_nilCheck_ptr rfl) rfl ?_
  refine rs_v (v_fieldAddr fa_keyspan_DefragmentingIter_4 rfl) rfl ?_
  refine rs_v (v_load one_p_keyspan_Span rfl (by exact Bc.cell _ rfl)) rfl ?_
  refine rs_v (v_peq u_p_keyspan_Span rfl rfl) rfl ?_
  refine rs_nil ?_
  refine q_thn ?_
  refine tr_if rfl (fun hif => ?_) (fun hif => ?_)
  · -- yes
    have hq := ret_gen (P := ¬ W.length = 0) (i := (W.length - 1)) (q0 := .nowhere) (by simp only [pLast]; split <;> simp_all) (by omega) (by simp [cur]) hret1
    rcases hq with ⟨rfl, hW⟩ | ⟨hW, hq, x2, o2, rfl, _, _⟩
    rotate_left
    · simp at hif
    refine tr_seq ?_
    refine tr_reg ?_
    refine rs_v (v_move rfl) rfl ?_
    refine rs_v (v_nilCheck_ptr rfl) rfl ?_
    refine rs_v (v_fieldAddr fa_keyspan_DefragmentingIter_5 rfl) rfl ?_
    refine rs_w0 (w_put siz_keyspan_iterPos rfl rfl rfl rfl Bc rfl) ?_
    rintro _ h3 ⟨B3, K3⟩
    have hret1 := Ret.stab hret1 (K3.stab (A := _) fun b hb => ⟨D.lo b (D.ff b hb), fun hm => D.di.fc (by rw [List.mem_singleton] at hm; subst hm; exact hb)⟩)
    have D := D.putC hit (sp' := .pointer none) (z' := 0) K3 B3
    have KP := KP.trans (K3.kp hcF) (fun _ h => .inl h)
    refine rs_nil ?_
    refine q_thn ?_
    refine tr_seq ?_
    refine tr_reg ?_
    refine rs_v (v_assign rfl) rfl ?_
    refine rs_nil ?_
    refine q_thn ?_
    refine tr_ret ?_
    refine q_thn_ret ?_
    refine q_ret (res_tmp rfl rfl) ?_
    rw [show dfr W = [] from dfr_nil (by omega), show pLast ([] : List SpanD) = .nowhere from rfl, ← show dfr W = [] from dfr_nil (by omega)]
    exact di_post hlF hF0 hFc hcm Bq D hret1 (.inl rfl) KP hFF (by unfold Ret; rw [show cur (dfr W) .nowhere = none from rfl])
  -- no
  have hq := ret_gen (P := ¬ W.length = 0) (i := (W.length - 1)) (q0 := .nowhere) (by simp only [pLast]; split <;> simp_all) (by omega) (by simp [cur]) hret1
  rcases hq with ⟨rfl, hW⟩ | ⟨hW, hq, x2, o2, rfl, _, _⟩
  · simp at hif
  rw [hq] at D hret1
  refine tr_skip ?_
  refine q_thn ?_
  refine tr_seq ?_
  refine tr_reg ?_
  refine rs_v (v_move rfl) rfl ?_
  refine rs_w (w_call (vs := [_]) ok_keyspan_DefragmentingIter_defragmentBackward rfl ⟨rfl, trivial⟩ (c_defragmentBackward hit hgood D (by omega) hret1)) rfl ?_
  rintro r4 h4 ⟨b3, Fin3, F3, sp3, sv3, ev3, kv3, a3, ksv3, kbv3, nk3, xk3, nb3, xb3, hrun3, hend3, D, hret, rfl, hps3, KP3, hF3⟩
  obtain ⟨qv3, rfl, _⟩ := hret.form
  have hKz := KP.1
  have KP := KP.trans KP3 hFF
  have hFF : ∀ b, F3 b → F0 b ∨ h.size ≤ b := fun b hb => (hF3 b hb).elim (hFF b) (fun e9 => Or.inr (by omega))
  have Bc := D.bc
  refine rs_v (v_assign rfl) rfl ?_
  refine rs_nil ?_
  refine q_thn ?_
  refine tr_ret ?_
  refine q_ret (res_tmp rfl rfl) ?_
  have hW0 : 0 < W.length := by omega
  have hg : Grp W b3 W.length := ⟨hend3, by rw [show W.length = W.length - 1 + 1 from by omega]; exact hrun3, .inl rfl⟩
  rw [grp_last hg]
  exact di_post hlF hF0 hFc hcm Bq D hret (.inr (.inr (.inr ⟨b3, W.length, rfl, hg, .inr ⟨rfl, rfl⟩⟩))) KP hFF (ret_grp hg D.fc (by rw [show W.length - 1 + 1 = W.length from by omega] at hps3; exact hps3))
end Go.Proofs.Ytgebfbnndgjkiaa
